import PyProof.Rows.All
import Wide.All
import OpenK.AllK
import Wide.FinOn
import PySem.Value
import KE.KFromBytes
import KE.KDictOf
import KE.KDictList
import KE.KLam
import PyProof.Comp
import KE.KDflt
import PyProof.Rows.CatchTuple
import PyProof.RaisesMany
import PyProof.ReprRoads
import PyProof.P3Eq
import PySem.Challenge.RW_kg0024_02
set_option Elab.async false
set_option maxRecDepth 100000
set_option genCtorIdx false
set_option tactic.hygienic false
set_option backward.match.sparseCases false
set_option genInjectivity false
set_option genSizeOf false
set_option genSizeOfSpec false
set_option bootstrap.genMatcherCode false
set_option compiler.extract_closed false
set_option linter.all false
namespace Mine.Internal
section
open PySem PySem.W PyProof.Rows PySem.SeqAt PySem.W.X PySem.W.Z
def Qq:=@wpAny_bind
def Qw:=@wpAny_pure
def Qz:=@Option.some.inj
def Qx:=@List.mem_of_getElem?
def Qy:=@Nat.eq_of_beq_eq_true
def Qv:=@Heap.get?_push_of_some
def Qu:=@List.getElem?_eq_getElem
def Qk:=@List.mem_cons_self
def Qj:=@List.mem_cons_of_mem
def Qh:=@Nat.le_of_ble_eq_true
def Qg:=@wpAny_holding
def Qf:=@wpAny_call_entry
def Qd:=@of_decide_eq_true
def Qb:=@wpAny_callSpecial?_slot
def Qn:=@wpAny_Constant_int
def Wq:=@wpAny_execs_cons
def Ww:=@wpAny_execs_nil
def Wz:=@Nat.lt_succ_self
def Wx:=@Nat.lt_of_lt_of_le
def Wy:=@Calls.spliced_cons
def Wv:=@Bool.false_ne_true
def Wu:=@Heap.SameBut.update
def Wk:=@decide_eq_false
def Wj:=@decide_eq_true
def Wg:=@Heap.get?_update_self
def Wf:=@List.mem_append_right
def Wb:=@Nat.ble_eq_true_of_le
def Wn{α:Type}{l:List α}{i:Nat}{a:α}(h:l[i]?=some a):= List.getElem?_eq_some_iff.mp h
def Zq{α:Type}{a b:α}{l:List α}(h:a∈b::l):= List.mem_cons.mp h
def Zw{α:Type}{a b:α}(h:a∈[b]):= List.mem_singleton.mp h
def Zz{α:Type}{p:α→Bool}{l:List α}(h:l.all p=true):= List.all_eq_true.mp h
def Zx{α:Type}{a:α}{l m:List α}(h:a∈l++m):= List.mem_append.mp h
end
section
open PySem PySem.W PyProof.Rows
noncomputable def topRunT (stp:SharedT→Thread→Option (SharedT × Thread)) (n₀:Nat) (ann:Option Value):Nat→SharedT→Thread→Option SharedT
 | 0,_,_=>none
 | n+1,s,t=>match through t with
  | true=>some s
  | false=>match stepOk n₀ ann t with
   | false=>none
   | true=>match stp s t with
    | some (s',t')=>topRunT stp n₀ ann n s' t'
    | none=>none
theorem topRunT_s {stp:SharedT→Thread→Option (SharedT × Thread)} {n₀:Nat} {ann:Option Value} {n:Nat} {s:SharedT} {t:Thread}:topRunT stp n₀ ann (n+1) s t=match through t with
  | true=>some s
  | false=>match stepOk n₀ ann t with
   | false=>none
   | true=>match stp s t with
    | some (s',t')=>topRunT stp n₀ ann n s' t'
    | none=>none:=rfl
theorem topRunT_of {tb:String→Option Builtin} {p:Program} {w:World} {n₀:Nat} {ann:Option Value} (n:Nat):∀ {s s':SharedT} {t:Thread},topRunT (stepT (denote tb) p w) n₀ ann n s t=some s'→topRun tb p w n₀ ann n s.abs t=some s'.abs:=by
 induction n with
 | zero=>intro s s' t h;cases h
 | succ n ih=>
  intro s s' t h
  rw [topRunT_s] at h
  unfold topRun
  cases he:through t with
  | true=>rw [he] at h;cases h;rfl
  | false=>
   rw [he] at h
   cases hk:stepOk n₀ ann t with
   | false=>rw [hk] at h;cases h
   | true=>
    rw [hk] at h
    cases hs:stepT (denote tb) p w s t with
    | none=>rw [hs] at h;cases h
    | some r=>rw [hs] at h;rw [stepT_spec hs];exact ih h
noncomputable def treeOf:List Obj→Nat→BT→Option (BT × Nat)
 | [],i,t=>some (t,i)
 | o::r,i,t=>match ((t.ins i o).get i).isSome with
  | true=>treeOf r (i+1) (t.ins i o)
  | false=>none
theorem treeOf_s {o:Obj} {r:List Obj} {i:Nat} {t:BT}:treeOf (o::r) i t=match ((t.ins i o).get i).isSome with
  | true=>treeOf r (i+1) (t.ins i o)
  | false=>none:=rfl
theorem treeOf_abs (life:Life) (l:List Obj):∀ {i:Nat} {t T:BT} {n:Nat},treeOf l i t=some (T,n)→(absHeap T n life).objs=(absHeap t i life).objs++l.toArray:=by
 induction l with
 | nil=>intro i t T n h;cases h;simp
 | cons o r ih=>
  intro i t T n h
  rw [treeOf_s] at h
  cases g:((t.ins i o).get i).isSome with
  | true=>
   rw [g] at h
   rw [ih h,absHeap_ins (life:=life) g]
   show ((absHeap t i life).objs.push o)++r.toArray=_
   simp
  | false=>rw [g] at h;cases h
noncomputable def sharedT (s:Shared):Option SharedT:=(treeOf s.heap.objs.toList 0 .nil).map fun x=>⟨x.1,x.2,s.heap.life,s.gens,s.drawn,s.toks,s.os⟩
theorem sharedT_abs {s:Shared} {t:SharedT} (h:sharedT s=some t):t.abs=s:=by
 obtain ⟨⟨T,n⟩,h1,rfl⟩:=Option.map_eq_some_iff.mp h
 have:=treeOf_abs s.heap.life _ h1
 obtain ⟨⟨objs,life⟩,gens,drawn,toks,os⟩:=s
 show Shared.mk (absHeap T n life) gens drawn toks os=_
 have e:absHeap T n life=⟨objs,life⟩:=by
  show Heap.mk _ _=Heap.mk _ _
  refine congrArg (Heap.mk · life) (this.trans ?_)
  show (List.toArray [])++objs.toList.toArray=objs
  simp
 rw [e]
noncomputable def finOf (s₀:Shared) (stp:SharedT→Thread→Option (SharedT × Thread)) (p:Program) (N:Nat):Option SharedT:=
 (sharedT s₀).bind fun t₀=>topRunT stp s₀.heap.objs.size (s₀.heap.nsMap mainGlobals "__annotations__") N t₀ (topStub p)
noncomputable def chkOf (p:Program) (s₀ s₁:Shared):Bool:=(s₀.heap.isNs mainGlobals && s₀.gens.size==0) && (staticsOk (importedModules p.main.body) s₀.heap s₁.heap && namesBound p s₁.heap && gensDone s₁ && laidKept s₀.heap s₁.heap)
theorem ends_of {p:Program} {w:World} {N:Nat} {α:Type} {f:Shared→α} {a:α} {s₀:Shared} {s₁:SharedT} (h0:fencedOpening treeTable p w N=some s₀)
  (h2:finOf s₀ (stepT (denote treeTable) p w) p N=some s₁) (h3:chkOf p s₀ s₁.abs=true) (h4:f s₁.abs=a):(openEnds treeTable p w N).map f=some a:=by
 obtain ⟨t₀,e1,e2⟩:=Option.bind_eq_some_iff.mp h2
 have:=topRunT_of _ e2
 rw [sharedT_abs e1] at this
 obtain ⟨c1,c2⟩:=Bool.and_eq_true_iff.mp h3
 unfold openEnds
 rw [h0]
 show (topFrom treeTable p w N s₀).map f=_
 unfold topFrom
 rw [c1]
 dsimp only
 rw [this]
 show (match staticsOk (importedModules p.main.body) s₀.heap s₁.abs.heap && namesBound p s₁.abs.heap && gensDone s₁.abs && laidKept s₀.heap s₁.abs.heap with
  | true=>some s₁.abs
  | false=>none).map f=_
 rw [c2]
 exact congrArg some h4
noncomputable def finQ (p:Program) (w:World) (N:Nat):Option (Shared × SharedT):=
 ((PySem.W.Fast.tw10274390034422433532 PySem.W.Fast.tw14364793385576792824 (opening p) w N (PySem.W.Fast.tw1435165496053646825 (opening p)).1 (PySem.W.Fast.tw1435165496053646825 (opening p)).2).bind (PySem.W.Fast.tw14289696077712309145 p)).bind fun s₀=>
  (finOf s₀ (PySem.W.Fast.tw10156331382660048174 (PySem.W.Fast.tw11892475500146522536 PySem.W.Fast.tw14364793385576792824) p w) p N).map fun s₁=>(s₀,s₁)
theorem finQ_spec {p:Program} {w:World} {N:Nat} {s₀:Shared} {s₁:SharedT} (h:finQ p w N=some (s₀,s₁)):fencedOpening treeTable p w N=some s₀∧finOf s₀ (stepT (denote treeTable) p w) p N=some s₁:=by
 unfold finQ at h
 obtain ⟨s,h1,h2⟩:=Option.bind_eq_some_iff.mp h
 obtain ⟨s',h3,h4⟩:=Option.map_eq_some_iff.mp h2
 cases h4
 rw [←PySem.W.Fast.te10274390034422433532,←PySem.W.Fast.te14364793385576792824,←PySem.W.Fast.te1435165496053646825,←PySem.W.Fast.te14289696077712309145] at h1
 rw [←PySem.W.Fast.te10156331382660048174,←PySem.W.Fast.te11892475500146522536,←PySem.W.Fast.te14364793385576792824] at h3
 exact ⟨h1,h3⟩
end
section
open PySem PySem.W PyProof.Rows PySem.Challenge
noncomputable def q0:Program:={ pw_kg0024_02 with main:={ pw_kg0024_02.main with body:=pw_kg0024_02.main.body.drop 23 } }
noncomputable def loose0:List Str:=(["_wall","place_of","YaccError","MAXINT","Production","LRItem","rightmost_terminal","GrammarError","Grammar","digraph","traverse","LALRError","LRTable","_name_aliases","_law_ways","_law_signs","_law_row","_law_settled","_law_read","_law_followed"]:List String).map Str.ofString
end
section
open Lean
def zzK (s:String):Name:= .str `Lean.Parser.Tactic s
def zzN (k:Name) (l:List Syntax):Syntax:= .node .none k l.toArray
def zzU (l:List Syntax):Syntax:=zzN `null l
def zzA (s:String):Syntax:= .atom .none s
def zzI (s:String):Syntax:=(mkIdent ((s.splitOn ".").foldl .str .anonymous)).raw
def zzH (_:Unit):Syntax:=zzN `Lean.Parser.Term.hole [zzA "_"]
def zzY (_:Unit):Syntax:=zzN `Lean.Parser.Term.syntheticHole [zzA "?",zzA "_"]
def zzP (f:Syntax) (l:List Syntax):Syntax:=zzN `Lean.Parser.Term.app [f,zzU l]
def zzT (k a:String) (l:List Syntax):Syntax:=zzN (zzK k) (zzA a::l)
def zzS (l:List Syntax):Syntax:=zzN (zzK "tacticSeq") [zzN (zzK "tacticSeq1Indented") [zzU (l.intersperse (zzA ";"))]]
def zzG (l:List Syntax):Syntax:=zzN (zzK "paren") [zzA "(",zzS l,zzA ")"]
def zzF (l:List Syntax):Syntax:=zzT "first" "first" [zzU (l.map fun t=>zzN `group [zzA "|",zzS [t]])]
def zzC (x:String):Syntax:=zzT "cases" "cases" [zzU [zzN (zzK "elimTarget") [zzU [],zzI x]],zzU [],zzU []]
def zzV (xs:List String):Syntax:=zzT "intro" "intro" [zzU (xs.map fun x=>if x== "_" then zzH () else zzI x)]
def zzX (a b:Syntax):Syntax:=zzN (zzK "tactic_<;>_") [a,zzA "<;>",b]
def zzR (t:Syntax):Syntax:=zzT "refine" "refine" [t]
def zzE (t:Syntax):Syntax:=zzT "exact" "exact" [t]
def zzZ (x:String):Syntax:=zzT "clear" "clear" [zzU [zzI x]]
def zzQ (l:List Syntax):Syntax:=zzT "allGoals" "all_goals" [zzS l]
def zzW (s:String):Syntax:=zzN `PyProof.Rows.tacticWalk_at_ [zzA "walk_at",(quote s:Term).raw]
def zzD (n:Nat) (l:List Syntax):List Syntax:=
 (l.zipIdx 1).map fun p=>zzT "generalize" "generalize" [zzU [zzN (zzK "generalizeArg") [zzU [],zzP (zzI s!"x{n}{p.2}") [zzH (),zzH ()],zzA "=",p.1]],zzU []]
def zzB (g:List String):List Syntax:=(List.range 9).flatMap fun j=>
 let h:=(g.drop (8 * j)).take 8
 if h.isEmpty then [] else
  zzR (zzN `Lean.Parser.Term.explicit [zzA "@",zzN `Lean.Parser.Term.paren [zzN `Lean.Parser.Term.hygienicLParen [zzA "(",zzN `hygieneInfo [mkIdent .anonymous]],zzP (zzI s!"ep{h.length}") [zzN `Lean.Parser.Term.namedArgument [zzA "(",zzI "h",zzA ":=",zzY (),zzA ")"]],zzA ")"]])::zzD h.length (h.map zzI)
def zzL (l:List String):List String × List Syntax:=
 let q:=l.zipIdx.map fun p=>
  let g:=(p.1.splitOn " ").filter (· != "")
  if p.2 % 2==0 then (g,zzB g) else ([],if g.isEmpty then [] else [zzV g])
 (q.flatMap (·.1),q.flatMap (·.2))
def zzJ (p:String) (l:List String):List Syntax:=l.map fun x=>zzE (zzI (p++x))
def zzM (t:String):Option Syntax:=match t.splitOn " " with
 | "m" ::f::h::xs=>some (zzG (zzR (zzP (zzI f) [zzI h,zzY ()])::zzZ h::if xs.isEmpty then [] else [zzV xs]))
 | "M" ::f::h::xs=>some (zzG [zzR (zzP (zzI f) [zzI h,zzY ()]),zzZ h,zzV (xs++ ["e"]),zzT "subst" "subst" [zzU [zzI "e"]]])
 | "n" ::f::h::_=>
  let o:=zzT "rotateLeft" "rotate_left" [zzU []]
  some (zzT "focus" "focus" [zzS [zzR (zzP (zzI f) [zzI h,zzY (),zzY ()]),zzQ [zzZ h],zzV [h,"_"],o,zzV [h,"_"],o]])
 | "e" ::_=>
  let q:=zzL ((t.drop 2).toString.splitOn "|")
  some (zzG (zzT "revert" "revert" [zzU (q.1.map zzI)]::q.2))
 | "g" ::xs=>some (zzG (xs.map (fun x=>zzF (zzE (zzI x)::("A B C D E F G H I J K L M N O P Q R S T U V W".splitOn " ").map fun c=>zzR (zzP (zzI ("g" ++c)) [zzI x,zzY ()])))++ [zzQ [zzF [zzT "tacticRfl" "rfl" [],zzT "skip" "skip" []]]]))
 | ["mp"]=>some (zzG [zzX (zzC "x") (zzT "repeat'" "repeat'" [zzS [zzF ([[],[zzI "h",zzI "rfl"],[zzH (),zzI "h",zzI "rfl"],[zzH (),zzH (),zzI "h",zzI "rfl"],[zzH (),zzH (),zzH (),zzI "h",zzI "rfl"]].map (fun a=>zzE (if a.isEmpty then zzP (zzI "nos") [zzI "h"] else zzP (zzI "k") a))++ [zzG [zzT "renameI" "rename_i" [zzU [zzN `Lean.binderIdent [zzI "y"]]],zzC "y"]])]])])
 | ["am_ne"]=>some (zzF (zzX (zzR (zzP (zzI "neP") [zzY (),zzY ()])) (zzW t)::zzJ "ne" ("Gl Cx Wd Tr St Sh AV Lo Ar Ev CE CS AO Tgt Fun Cls Fl It MK Pr Nms Dr W A B C D E".splitOn " ")))
 | ["am_get"]=>some (zzF [zzE (zzI "Zy"),zzG [zzR (zzP (zzI "gg") [zzI "rfl",zzY ()]),zzW t],zzT "assumption" "assumption" []])
 | ["am_str"]=>some (zzF (zzJ "strs_" ("0 1 2 3 4 5 6 7 8 9 10 11 12 13 14 15 16 17 18 19 20 21 22 23 24".splitOn " ")))
 | ["am_side"]=>some (zzF [zzT "assumption" "assumption" [],zzT "tacticRfl" "rfl" []])
 | ["am_ev"]=>some (zzF ((["x_loc get","x_str str","x_num","x_non","x_boo","x_sub ev ev side","x_neg ev","x_add ev ev","x_minus ev ev","x_attr ev side","x_cmp ev ev side"].map fun s=>match s.splitOn " " with | a::l=>zzG (zzT "apply" "apply" [zzI a]::l.map fun x=>zzW ("am_" ++x)) | []=>zzH ())))
 | ["am_evs"]=>some (zzF [zzE (zzI "Yw"),zzG [zzT "apply" "apply" [zzI "Xj"],zzW "am_ev",zzW t]])
 | ["am_leave"]=>some (zzG [zzV ["h"],zzC "h"])
 | _=>none
end
local macro_rules | `(tactic| walk_at $s:str)=>match zzM s.getString with | some r=>return r | none=>Lean.Macro.throwUnsupported
section
open Lean
end
section
open PySem (Pos CmpOp)
inductive Tr (α:Type) where
 | nil
 | node (v:Option α) (l r:Tr α)
noncomputable def Tr.ctorIdx {α:Type} (x:Tr α):Nat:= @Tr.casesOn α (fun u=>Nat) x 0 (fun u u u=>1)
namespace Tr
variable {α:Type}
noncomputable def get:Tr α→Nat→Option α
 | .nil,_=>none
 | .node v l r,i=>match Nat.beq i 0 with
  | true=>v
  | false=>match Nat.beq (i % 2) 1 with
   | true=>l.get (i / 2)
   | false=>r.get (i / 2 - 1)
noncomputable def put (x:α):Tr α→Nat→Nat→Option (Tr α)
 | _,_,0=>none
 | .nil,i,f+1=>match Nat.beq i 0 with
  | true=>some (.node (some x) .nil .nil)
  | false=>match Nat.beq (i % 2) 1 with
   | true=>match put x .nil (i / 2) f with
    | some l=>some (.node none l .nil)
    | none=>none
   | false=>match put x .nil (i / 2 - 1) f with
    | some r=>some (.node none .nil r)
    | none=>none
 | .node v l r,i,f+1=>match Nat.beq i 0 with
  | true=>some (.node (some x) l r)
  | false=>match Nat.beq (i % 2) 1 with
   | true=>match put x l (i / 2) f with
    | some l=>some (.node v l r)
    | none=>none
   | false=>match put x r (i / 2 - 1) f with
    | some r=>some (.node v l r)
    | none=>none
noncomputable def set (t:Tr α) (i:Nat) (x:α):Option (Tr α):=put x t i (i+1)
end Tr
set_option genInjectivity true in
inductive AV where
 | non
 | boo (b:Bool)
 | int (i:Int)
 | str (s:List Nat)
 | tup (xs:List AV)
 | ref (n:Nat)
 | glo (k:Nat)
 | sym (k:Nat)
 | act (x y p j:Nat)
 | clo (k:Nat) (fv:List AV)
 | aint
 | junk
noncomputable def AV.ctorIdx (x:AV):Nat:= @AV.casesOn (fun u=>Nat) x 0 (fun u=>1) (fun u=>2) (fun u=>3) (fun u=>4) (fun u=>5) (fun u=>6) (fun u=>7) (fun u u u u=>8) (fun u u=>9) 10 11
inductive AO where
 | inst (c d:Nat)
 | attrs (es:List (Nat × AV))
 | list (xs:List AV)
 | dict (es:List (AV × AV)) (ep:Nat)
 | set (xs:List AV)
  | tab (k n:Nat)
noncomputable def AO.ctorIdx (x:AO):Nat:= @AO.casesOn (fun u=>Nat) x (fun u u=>0) (fun u=>1) (fun u=>2) (fun u u=>3) (fun u=>4) (fun u u=>5)
inductive CE where
 | non (p:Pos)
 | boo (b:Bool) (p:Pos)
 | num (i:Nat) (p:Pos)
 | str (k:Nat) (p:Pos)
 | loc (x:Nat) (p:Pos)
 | gl (x:Nat) (p:Pos)
 | attr (e:CE) (a:Nat) (p:Pos)
 | sub (e i:CE) (p:Pos)
 | slc (e:CE) (lo hi:Option CE) (ps p:Pos)
 | cmp (l:CE) (op:CmpOp) (r:CE) (p:Pos)
 | and (es:List CE) (p:Pos)
 | or (es:List CE) (p:Pos)
 | not (e:CE) (p:Pos)
 | neg (e:CE) (p:Pos)
 | bin (l:CE) (op:PySem.Operator) (r:CE) (p:Pos)
 | ifx (t a b:CE) (p:Pos)
 | lst (es:List CE) (p:Pos)
 | tup (es:List CE) (p:Pos)
 | dic (p:Pos)
 | meth (o:CE) (m:Nat) (args:List CE) (pa p:Pos)
 | calL (x:Nat) (pf:Pos) (args:List CE) (p:Pos)
 | calG (f:Nat) (pf:Pos) (args:List CE) (p:Pos)
noncomputable def CE.ctorIdx (x:CE):Nat:= @CE.casesOn (fun u=>Nat) x (fun u=>0) (fun u u=>1) (fun u u=>2) (fun u u=>3) (fun u u=>4) (fun u u=>5) (fun u u u=>6) (fun u u u=>7) (fun u u u u u=>8) (fun u u u u=>9) (fun u u=>10) (fun u u=>11) (fun u u=>12) (fun u u=>13) (fun u u u u=>14) (fun u u u u=>15) (fun u u=>16) (fun u u=>17) (fun u=>18) (fun u u u u u=>19) (fun u u u u=>20) (fun u u u u=>21)
inductive Tgt where
 | one (x:Nat) (p:Pos)
 | two (xs:List (Nat × Pos)) (p:Pos)
noncomputable def Tgt.ctorIdx (x:Tgt):Nat:= @Tgt.casesOn (fun u=>Nat) x (fun u u=>0) (fun u u=>1)
inductive CS where
 | expr (e:CE) (p:Pos)
 | asgN (x:Nat) (pt:Pos) (e:CE) (p:Pos)
 | asgA (o:CE) (a:Nat) (pt:Pos) (e:CE) (p:Pos)
 | asgS (o i:CE) (pt:Pos) (e:CE) (p:Pos)
 | asgT (xs:List (Nat × Pos)) (pt:Pos) (e:CE) (p:Pos)
 | augN (x:Nat) (pt:Pos) (op:PySem.Operator) (e:CE) (p:Pos)
 | augA (o:CE) (a:Nat) (pt:Pos) (op:PySem.Operator) (e:CE) (p:Pos)
 | augS (o i:CE) (pt:Pos) (op:PySem.Operator) (e:CE) (p:Pos)
 | ife (t:CE) (b c:List CS) (p:Pos)
 | whl (t:CE) (b c:List CS) (p:Pos)
 | forr (t:Tgt) (e:CE) (b c:List CS) (p:Pos)
 | ret (e:Option CE) (p:Pos)
 | brk (p:Pos)
 | cont (p:Pos)
 | pas (p:Pos)
 | asrt (t:CE) (path:List Nat) (p:Pos)
 | spec (k:Nat) (path:List Nat)
 | raw (path:List Nat)
noncomputable def CS.ctorIdx (x:CS):Nat:= @CS.casesOn (fun u=>Nat) x (fun u u=>0) (fun u u u u=>1) (fun u u u u u=>2) (fun u u u u u=>3) (fun u u u u=>4) (fun u u u u u=>5) (fun u u u u u u=>6) (fun u u u u u u=>7) (fun u u u u=>8) (fun u u u u=>9) (fun u u u u u=>10) (fun u u=>11) (fun u=>12) (fun u=>13) (fun u=>14) (fun u u u=>15) (fun u u=>16) (fun u=>17)
inductive Fl where
 | next | brk | cont
 | ret (v:AV)
noncomputable def Fl.ctorIdx (x:Fl):Nat:= @Fl.casesOn (fun u=>Nat) x 0 1 2 (fun u=>3)
structure St where
 h:Tr AO
 nx:Nat
structure Lo where
 dep:Nat
 vs:Tr AV
noncomputable def plainN {β:Type} (n:Nat) (k:Nat→β):β:=match n with
 | 0=>k 0
 | m+1=>k (m+1)
noncomputable def plainI {β:Type} (i:Int) (k:Int→β):β:=match i with
 | .ofNat n=>plainN n fun n=>k (.ofNat n)
 | .negSucc n=>plainN n fun n=>k (.negSucc n)
noncomputable def beqI (a b:Int):Bool:=match a,b with
 | .ofNat m,.ofNat n=>Nat.beq m n
 | .ofNat _,.negSucc _=>false
 | .negSucc _,.ofNat _=>false
 | .negSucc m,.negSucc n=>Nat.beq m n
noncomputable def ltI (a b:Int):Bool:=match a,b with
 | .ofNat m,.ofNat n=>Nat.blt m n
 | .ofNat _,.negSucc _=>false
 | .negSucc _,.ofNat _=>true
 | .negSucc m,.negSucc n=>Nat.blt n m
noncomputable def beqS:List Nat→List Nat→Bool
 | [],[]=>true
 | x::xs,y::ys=>match Nat.beq x y with
  | true=>beqS xs ys
  | false=>false
 | _,_=>false
noncomputable def eqL (f:AV→AV→Option Bool):List AV→List AV→Option Bool
 | [],ys=>match ys with | []=>some true | _::_=>some false
 | x::xs,ys=>match ys with
  | []=>some false
  | y::ys=>match f x y with
   | some true=>eqL f xs ys
   | r=>r
noncomputable def beqK:Nat→AV→AV→Option Bool
 | 0,_,_=>none
 | f+1,a,b=>match a with
  | .int i=>match b with | .int j=>some (beqI i j) | .str _=>some false | .tup _=>some false | _=>none
  | .str s=>match b with | .str t=>some (beqS s t) | .int _=>some false | .tup _=>some false | _=>none
  | .tup xs=>match b with | .tup ys=>eqL (beqK f) xs ys | .int _=>some false | .str _=>some false | _=>none
  | _=>none
noncomputable def isKeyF:Nat→AV→Bool
 | 0,_=>false
 | f+1,a=>match a with
  | .int _=>true
  | .str _=>true
  | .tup xs=>allK (isKeyF f) xs
  | _=>false
where allK (p:AV→Bool):List AV→Bool
 | []=>true
 | x::r=>match p x with | true=>allK p r | false=>false
noncomputable def eqK (a b:AV):Option Bool:=beqK 6 a b
noncomputable def isKey (a:AV):Bool:=isKeyF 6 a
noncomputable def findGo (k:AV):List (AV × AV)→Option (Option AV)
 | []=>some none
 | e::r=>match eqK e.1 k with
  | some true=>some (some e.2)
  | some false=>findGo k r
  | none=>none
noncomputable def find (k:AV) (es:List (AV × AV)):Option (Option AV):=match isKey k with
 | true=>findGo k es
 | false=>none
noncomputable def storeGo (k v:AV):List (AV × AV)→Option (Bool × List (AV × AV))
 | []=>some (true,[(k,v)])
 | e::r=>match eqK e.1 k with
  | some true=>some (false,(e.1,v)::r)
  | some false=>match storeGo k v r with
   | some (b,r)=>some (b,e::r)
   | none=>none
  | none=>none
noncomputable def store (k v:AV) (es:List (AV × AV)):Option (Bool × List (AV × AV)):=match isKey k with
 | true=>storeGo k v es
 | false=>none
noncomputable def findA (k:Nat):List (Nat × AV)→Option AV
 | []=>none
 | e::r=>match Nat.beq e.1 k with
  | true=>some e.2
  | false=>findA k r
noncomputable def storeA (k:Nat) (v:AV):List (Nat × AV)→Option (List (Nat × AV))
 | []=>some [(k,v)]
 | e::r=>match Nat.beq e.1 k with
  | true=>some ((e.1,v)::r)
  | false=>match storeA k v r with
   | some r=>some (e::r)
   | none=>none
noncomputable def snoc {α:Type} (a:α):List α→Option (List α)
 | []=>some [a]
 | x::r=>match snoc a r with
  | some r=>some (x::r)
  | none=>none
noncomputable def app {α:Type}:List α→List α→Option (List α)
 | [],ys=>some ys
 | x::r,ys=>match app r ys with
  | some r=>some (x::r)
  | none=>none
noncomputable def nth {α:Type}:List α→Nat→Option α
 | [],_=>none
 | x::r,n=>match n with
  | 0=>some x
  | n+1=>nth r n
noncomputable def setNth {α:Type} (v:α):List α→Nat→Option (List α)
 | [],_=>none
 | x::r,n=>match n with
  | 0=>some (v::r)
  | n+1=>match setNth v r n with
   | some r=>some (x::r)
   | none=>none
noncomputable def lenN {α:Type}:List α→Nat
 | []=>0
 | _::r=>lenN r+1
noncomputable def small {α:Type} (xs:List α):Bool:=Nat.ble (lenN xs) 4000
noncomputable def dropN {α:Type}:List α→Nat→List α
 | l,0=>l
 | [],_+1=>[]
 | _::r,n+1=>dropN r n
noncomputable def takeN {α:Type}:List α→Nat→Option (List α)
 | _,0=>some []
 | [],_+1=>some []
 | x::r,n+1=>match takeN r n with
  | some r=>some (x::r)
  | none=>none
noncomputable def dropLast {α:Type}:List α→Option (List α × α)
 | []=>none
 | x::r=>match r with
  | []=>some ([],x)
  | _::_=>match dropLast r with
   | some (r,y)=>some (x::r,y)
   | none=>none
noncomputable def insN {α:Type} (v:α):List α→Nat→Option (List α)
 | l,0=>some (v::l)
 | [],_+1=>some [v]
 | x::r,n+1=>match insN v r n with
  | some r=>some (x::r)
  | none=>none
noncomputable def place (i:Int) (n:Nat):Option Nat:=match Nat.ble n 4000 with
 | true=>match i with
  | .ofNat k=>some k
  | .negSucc k=>match Nat.blt k n with
   | true=>some (n - (k+1))
   | false=>none
 | false=>none
noncomputable def bound (i:Int) (n:Nat):Nat:=match i with
 | .ofNat k=>match Nat.ble k n with | true=>k | false=>n
 | .negSucc k=>n - (k+1)
noncomputable def Lo.get (l:Lo) (x:Nat):Option AV:=l.vs.get x
noncomputable def Lo.set (l:Lo) (x:Nat) (v:AV):Option Lo:=match l.vs.set x v with
 | some t=>some ⟨l.dep,t⟩
 | none=>none
noncomputable def St.new (s:St) (o:AO):Option (AV × St):=match s.h.set s.nx o with
 | some h=>plainN (s.nx+1) fun n=>some (.ref s.nx,⟨h,n⟩)
 | none=>none
noncomputable def St.upd (s:St) (n:Nat) (o:AO):Option St:=match s.h.set n o with
 | some h=>some ⟨h,s.nx⟩
 | none=>none
structure Cls where
 meths:List (Nat × Nat)
 plain:List (Nat × AV)
 init:Nat
 len:Option Nat
structure Fun where
 n:Nat
 dflt:List AV
 body:List CS
structure Pr where
 strq:Nat→List Nat
 glob:Nat→Option AV
 cls:Nat→Option Cls
 fn:Nat→Option Fun
 prim:Nat→List AV→St→Option (AV × St)
 spec:Nat→Lo→St→Option (Lo × St)
 clos:Nat→Option (Nat × CE)
noncomputable def truth (P:Pr) (v:AV) (s:St):Option Bool:=match v with
 | .non=>some false
 | .boo b=>some b
 | .int i=>some (!beqI i 0)
 | .tup l=>match small l with
  | true=>match l with | []=>some false | _::_=>some true
  | false=>none
 | .ref n=>match s.h.get n with
  | some o=>match o with
   | .list l=>match small l with
    | true=>match l with | []=>some false | _::_=>some true
    | false=>none
   | .dict l _=>match small l with
    | true=>match l with | []=>some false | _::_=>some true
    | false=>none
   | .inst c _=>match P.cls c with
    | some C=>match C.len with
     | none=>some true
     | some _=>none
    | none=>none
   | _=>none
  | none=>none
 | _=>none
noncomputable def isNo (v:AV):Bool:=match v with
 | .non=>true
 | _=>false
noncomputable def eqLists (xs ys:List AV):Option Bool:=match xs with
 | []=>(match ys with | []=>some true | _::_=>none)
 | x::xs=>match isNo x with
  | true=>(match xs with
   | []=>(match ys with
    | []=>none
    | y::ys=>match isNo y with
     | true=>(match ys with | []=>some true | _::_=>none)
     | false=>none)
   | _::_=>none)
  | false=>none
noncomputable def eqV (a b:AV) (s:St):Option Bool:=match a with
 | .ref m=>match b with
  | .ref n=>match s.h.get m with
   | some (.list xs)=>match s.h.get n with
    | some (.list ys)=>eqLists xs ys
    | _=>none
   | _=>none
  | _=>none
 | .int i=>match b with
  | .int j=>some (beqI i j)
  | _=>none
 | .str x=>match b with
  | .str y=>some (beqS x y)
  | _=>none
 | .tup xs=>match b with
  | .tup ys=>match isKey (.tup xs) with
   | true=>match isKey (.tup ys) with
    | true=>eqK (.tup xs) (.tup ys)
    | false=>none
   | false=>none
  | _=>none
 | _=>none
noncomputable def memGo (v:AV):List AV→Option Bool
 | []=>some false
 | x::r=>match isKey x with
  | true=>match memGo v r with
   | some b=>match eqK x v with
    | some true=>some true
    | some false=>some b
    | none=>none
   | none=>none
  | false=>none
noncomputable def memK (v:AV) (xs:List AV):Option Bool:=match isKey v with
 | true=>memGo v xs
 | false=>none
noncomputable def isWay (k:Nat):Bool:=match k with
 | 0=>true
 | 2=>true
 | 4=>true
 | _=>false
noncomputable def aliasId:Nat:=13
noncomputable def allStr:List AV→Bool
 | []=>true
 | x::r=>match x with
  | .str _=>allStr r
  | _=>false
noncomputable def hasStr (s:List Nat):List AV→Bool
 | []=>false
 | x::r=>match x with
  | .str t=>match beqS s t with | true=>true | false=>hasStr s r
  | _=>hasStr s r
noncomputable def inStr1 (c:Nat):List Nat→Bool
 | []=>false
 | x::r=>match Nat.beq x c with | true=>true | false=>inStr1 c r
noncomputable def within (a b:AV) (s:St):Option Bool:=match b with
 | .ref n=>match s.h.get n with
  | some (.list xs)=>match a with
   | .sym k=>match isWay k with
    | true=>match allStr xs with
     | true=>match hasStr [108,101,102,116] xs with
      | true=>match hasStr [114,105,103,104,116] xs with
       | true=>match hasStr [110,111,110,97,115,115,111,99] xs with
        | true=>some true
        | false=>none
       | false=>none
      | false=>none
     | false=>none
    | false=>none
   | _=>memK a xs
  | some (.dict es _)=>match find a es with
   | some (some _)=>some true
   | some none=>some false
   | none=>none
  | some (.set xs)=>match a with
   | .str _=>memK a xs
   | _=>none
  | _=>none
 | .str t=>match a with
  | .str [c]=>some (inStr1 c t)
  | _=>none
 | .glo k=>match Nat.beq k aliasId with
  | true=>match a with
   | .str _=>some false
   | _=>none
  | false=>none
 | _=>none
noncomputable def isNone:AV→Option Bool
 | .non=>some true
 | .boo _=>some false
 | .int _=>some false
 | .str _=>some false
 | .tup _=>some false
 | .ref _=>some false
 | _=>none
noncomputable def cmpV (op:CmpOp) (a b:AV) (s:St):Option Bool:=match op with
 | .Eq=>eqV a b s
 | .NotEq=>match eqV a b s with | some r=>some (!r) | none=>none
 | .Lt=>(match a with | .int i=>(match b with | .int j=>some (ltI i j) | _=>none) | _=>none)
 | .LtE=>(match a with | .int i=>(match b with | .int j=>some (!ltI j i) | _=>none) | _=>none)
 | .Gt=>(match a with | .int i=>(match b with | .int j=>some (ltI j i) | _=>none) | _=>none)
 | .GtE=>(match a with | .int i=>(match b with | .int j=>some (!ltI i j) | _=>none) | _=>none)
 | .Is=>match b with | .non=>isNone a | _=>none
 | .IsNot=>match b with | .non=>(match isNone a with | some r=>some (!r) | none=>none) | _=>none
 | .In=>within a b s
 | .NotIn=>match b with
  | .str _=>none
  | _=>match within a b s with | some r=>some (!r) | none=>none
noncomputable def binV (op:PySem.Operator) (a b:AV) (s:St):Option (AV × St):=match op with
 | .Add=>match a with
  | .int i=>match b with
   | .int j=>plainI (i+j) fun k=>some (.int k,s)
   | _=>none
  | .aint=>match b with
   | .int _=>some (.aint,s)
   | _=>none
  | _=>none
 | .Sub=>match a with
  | .int i=>match b with
   | .int j=>plainI (i - j) fun k=>some (.int k,s)
   | _=>none
  | .aint=>match b with
   | .int _=>some (.aint,s)
   | _=>none
  | _=>none
 | _=>none
noncomputable def repN (x:AV):Nat→List AV
 | 0=>[]
 | k+1=>x::repN x k
noncomputable def preV (op:PySem.Operator) (a b:AV) (s:St):Option (AV × St):=match op with
 | .Mod=>match a with
  | .int i=>match b with
   | .int (.ofNat j)=>match j with
    | 0=>none
    | j+1=>plainI (i % (.ofNat (j+1))) fun k=>some (.int k,s)
   | _=>none
  | _=>none
 | .Add=>match a with
  | .ref m=>match s.h.get m with
   | some (.list xs)=>match b with
    | .ref n=>match s.h.get n with
     | some (.list ys)=>match small xs with
      | true=>match small ys with
       | true=>match app xs ys with
        | some zs=>s.new (.list zs)
        | none=>none
       | false=>none
      | false=>none
     | _=>none
    | _=>none
   | _=>none
  | _=>none
 | .Mult=>match a with
  | .ref m=>match s.h.get m with
   | some (.list [x])=>match b with
    | .int (.ofNat k)=>match Nat.ble k 4000 with
     | true=>s.new (.list (repN x k))
     | false=>none
    | _=>none
   | _=>none
  | _=>none
 | _=>none
noncomputable def augV (op:PySem.Operator) (a b:AV) (s:St):Option (AV × St):=match a with
 | .ref _=>none
 | _=>binV op a b s
noncomputable def handed:AV→Bool
 | .glo _=>false
 | .sym _=>false
 | .act _ _ _ _=>false
 | .junk=>false
 | _=>true
noncomputable def getA (P:Pr) (v:AV) (a:Nat) (s:St):Option AV:=match v with
 | .ref n=>match s.h.get n with
  | some (.inst c d)=>match s.h.get d with
   | some (.attrs es)=>match P.cls c with
    | some C=>match findA a es with
     | some v=>match handed v with
      | true=>some v
      | false=>none
     | none=>findA a C.plain
    | none=>none
   | _=>none
  | _=>none
 | _=>none
noncomputable def setA (P:Pr) (v:AV) (a:Nat) (x:AV) (s:St):Option St:=match v with
 | .ref n=>match s.h.get n with
  | some (.inst c d)=>match P.cls c with
   | some _=>match s.h.get d with
    | some (.attrs es)=>match storeA a x es with
     | some es=>match Nat.ble (lenN es) 1000 with
      | true=>s.upd d (.attrs es)
      | false=>none
     | none=>none
    | _=>none
   | none=>none
  | _=>none
 | _=>none
noncomputable def getI (v i:AV) (s:St):Option AV:=match v with
 | .ref n=>match s.h.get n with
  | some (.list xs)=>match i with
   | .int k=>match place k (lenN xs) with
    | some p=>nth xs p
    | none=>none
   | _=>none
  | some (.dict es _)=>match find i es with
   | some r=>r
   | none=>none
  | _=>none
 | .tup xs=>match i with
  | .int k=>match place k (lenN xs) with
   | some p=>nth xs p
   | none=>none
  | _=>none
 | .str xs=>match i with
  | .int k=>match place k (lenN xs) with
   | some p=>match nth xs p with
    | some c=>some (.str [c])
    | none=>none
   | none=>none
  | _=>none
 | _=>none
noncomputable def setI (v i x:AV) (s:St):Option St:=match v with
 | .ref n=>match s.h.get n with
  | some (.list xs)=>match i with
   | .int (.ofNat p)=>match small xs with
    | true=>match setNth x xs p with
     | some xs=>s.upd n (.list xs)
     | none=>none
    | false=>none
   | _=>none
  | some (.dict es ep)=>match store i x es with
   | some (true,es)=>match small es with
    | true=>plainN (ep+1) fun ep=>s.upd n (.dict es ep)
    | false=>none
   | some (false,es)=>s.upd n (.dict es ep)
   | none=>none
  | _=>none
 | _=>none
noncomputable def cut (xs:List AV) (lo hi:Option Int):Option (List AV):=
 let n:=lenN xs
 let a:=match lo with | none=>0 | some i=>bound i n
 let b:=match hi with | none=>n | some i=>bound i n
 takeN (dropN xs a) (b - a)
noncomputable def sliceV (v:AV) (lo hi:Option Int) (s:St):Option (AV × St):=match v with
 | .ref n=>match s.h.get n with
  | some (.list xs)=>match small xs with
   | true=>match cut xs lo hi with
    | some l=>s.new (.list l)
    | none=>none
   | false=>none
  | _=>none
 | .tup xs=>match small xs with
  | true=>match lo with
   | some (.ofNat k)=>match Nat.ble 1 k with
    | true=>match Nat.ble k (lenN xs) with
     | true=>match hi with
      | none=>match takeN (dropN xs k) (lenN xs) with
       | some l=>some (.tup l,s)
       | none=>none
      | some _=>none
     | false=>none
    | false=>none
   | _=>none
  | false=>none
 | _=>none
structure Ev where
 ev:CE→Lo→St→Option (AV × St)
 tst:CE→Lo→St→Option (Bool × St)
 exs:List CS→Lo→St→Option (Fl × Lo × St)
noncomputable def evs (f:CE→St→Option (AV × St)):List CE→St→Option (List AV × St)
 | [],s=>some ([],s)
 | e::r,s=>match f e s with
  | some (v,s)=>match evs f r s with
   | some (vs,s)=>some (v::vs,s)
   | none=>none
  | none=>none
noncomputable def allT (f:CE→St→Option (Bool × St)) (isAnd:Bool):List CE→St→Option (Bool × St)
 | [],s=>some (isAnd,s)
 | e::r,s=>match f e s with
  | some (b,s)=>match b with
   | true=>match isAnd with
    | true=>allT f isAnd r s
    | false=>some (true,s)
   | false=>match isAnd with
    | true=>some (false,s)
    | false=>allT f isAnd r s
  | none=>none
noncomputable def optE (f:CE→St→Option (AV × St)) (e:Option CE) (s:St):Option (Option Int × St):=match e with
 | none=>some (none,s)
 | some e=>match f e s with
  | some (.int i,s)=>some (some i,s)
  | _=>none
noncomputable def bindP:Nat→List AV→Tr AV→Option (Tr AV)
 | _,[],t=>some t
 | i,v::r,t=>match t.set i v with
  | some t=>bindP (i+1) r t
  | none=>none
noncomputable def withDflt (n:Nat) (dflt args:List AV):Option (List AV):=
 let k:=n - lenN args
 let m:=lenN dflt
 match Nat.ble k m with
 | true=>app args (dropN dflt (m - k))
 | false=>none
noncomputable def runF (E:Ev) (f:Fun) (args:List AV) (l:Lo) (s:St):Option (AV × St):=match l.dep with
 | 0=>none
 | d+1=>match withDflt f.n f.dflt args with
  | some args=>match Nat.beq (lenN args) f.n with
   | true=>match bindP 0 args .nil with
    | some t=>match E.exs f.body ⟨d,t⟩ s with
     | some (fl,_,s)=>match fl with
      | .ret v=>some (v,s)
      | .next=>some (.non,s)
      | _=>none
     | none=>none
    | none=>none
   | false=>none
  | none=>none
noncomputable def callFn (P:Pr) (E:Ev) (f:Nat) (args:List AV) (l:Lo) (s:St):Option (AV × St):=match P.fn f with
 | some F=>runF E F args l s
 | none=>P.prim f args s
structure Nms where
 append:Nat
 insert:Nat
 pop:Nat
 get:Nat
 setdefault:Nat
 items:Nat
 values:Nat
 add:Nat
 len:Nat
 tuple:Nat
 list:Nat
 enumerate:Nat
 range:Nat
 set_:Nat
 getattr:Nat
 min:Nat
 dict:Nat
 fromkeys:Nat
 lr0_added:Nat
 keyError:Nat
 indexError:Nat
inductive MK where
 | lst | dct | st
 | ins (c:Nat)
noncomputable def MK.ctorIdx (x:MK):Nat:= @MK.casesOn (fun u=>Nat) x 0 1 2 (fun u=>3)
noncomputable def peek (v:AV) (s:St):Option MK:=match v with
 | .ref n=>match s.h.get n with
  | some (.list _)=>some .lst
  | some (.dict _ _)=>some .dct
  | some (.set _)=>some .st
  | some (.inst c d)=>match s.h.get d with
   | some (.attrs _)=>some (.ins c)
   | _=>none
  | _=>none
 | _=>none
noncomputable def lstM (N:Nms) (n m:Nat) (xs:List AV) (args:List AV) (s:St):Option (AV × St):=match small xs with
 | true=>match Nat.beq m N.append with
  | true=>match args with
   | [v]=>match snoc v xs with
    | some xs=>match s.upd n (.list xs) with
     | some s=>some (.non,s)
     | none=>none
    | none=>none
   | _=>none
  | false=>match Nat.beq m N.pop with
   | true=>match args with
    | []=>match dropLast xs with
     | some (xs,v)=>match s.upd n (.list xs) with
      | some s=>some (v,s)
      | none=>none
     | none=>none
    | _=>none
   | false=>match Nat.beq m N.insert with
    | true=>match args with
     | [.int (.ofNat i),v]=>match Nat.ble i (lenN xs) with
      | true=>match insN v xs i with
       | some xs=>match s.upd n (.list xs) with
        | some s=>some (.non,s)
        | none=>none
       | none=>none
      | false=>none
     | _=>none
    | false=>none
 | false=>none
noncomputable def dctM (N:Nms) (n m:Nat) (es:List (AV × AV)) (ep:Nat) (args:List AV) (s:St):Option (AV × St):=match Nat.beq m N.get with
 | true=>match args with
  | [k]=>match find k es with
   | some (some v)=>some (v,s)
   | some none=>some (.non,s)
   | none=>none
  | [k,d]=>match find k es with
   | some (some v)=>some (v,s)
   | some none=>some (d,s)
   | none=>none
  | _=>none
 | false=>match Nat.beq m N.setdefault with
  | true=>match args with
   | [k,d]=>match find k es with
    | some (some v)=>some (v,s)
    | some none=>match small es with
     | true=>match snoc (k,d) es with
      | some es=>plainN (ep+1) fun ep=>match s.upd n (.dict es ep) with
       | some s=>some (d,s)
       | none=>none
      | none=>none
     | false=>none
    | none=>none
   | _=>none
  | false=>none
noncomputable def setM (N:Nms) (n m:Nat) (xs:List AV) (args:List AV) (s:St):Option (AV × St):=match Nat.beq m N.add with
 | true=>match args with
  | [.str t]=>match memK (.str t) xs with
   | some true=>some (.non,s)
   | some false=>match Nat.ble (lenN xs) 1 with
    | true=>match snoc (.str t) xs with
     | some xs=>match s.upd n (.set xs) with
      | some s=>some (.non,s)
      | none=>none
     | none=>none
    | false=>none
   | none=>none
  | _=>none
 | false=>none
noncomputable def findM (k:Nat):List (Nat × Nat)→Option Nat
 | []=>none
 | e::r=>match Nat.beq e.1 k with
  | true=>some e.2
  | false=>findM k r
noncomputable def methV (P:Pr) (N:Nms) (E:Ev) (mk:MK) (o:AV) (m:Nat) (args:List AV) (l:Lo) (s:St):Option (AV × St):=match mk with
 | .ins c=>match P.cls c with
  | some C=>match findM m C.meths with
   | some f=>callFn P E f (o::args) l s
   | none=>none
  | none=>none
 | .lst=>match o with
  | .ref n=>match s.h.get n with
   | some (.list xs)=>lstM N n m xs args s
   | _=>none
  | _=>none
 | .dct=>match o with
  | .ref n=>match s.h.get n with
   | some (.dict es ep)=>dctM N n m es ep args s
   | _=>none
  | _=>none
 | .st=>match o with
  | .ref n=>match s.h.get n with
   | some (.set xs)=>setM N n m xs args s
   | _=>none
  | _=>none
noncomputable def vals:List (AV × AV)→Option (List AV)
 | []=>some []
 | e::r=>match e.1 with
  | .str _=>match vals r with
   | some r=>some (e.2::r)
   | none=>none
  | _=>none
noncomputable def lenV (P:Pr) (E:Ev) (v:AV) (l:Lo) (s:St):Option (AV × St):=match v with
 | .tup xs=>match small xs with
  | true=>plainN (lenN xs) fun n=>some (.int (.ofNat n),s)
  | false=>none
 | .ref n=>match s.h.get n with
  | some (.list xs)=>match small xs with
   | true=>plainN (lenN xs) fun n=>some (.int (.ofNat n),s)
   | false=>none
  | some (.set xs)=>plainN (lenN xs) fun n=>some (.int (.ofNat n),s)
  | some (.inst c _)=>match P.cls c with
   | some C=>match C.len with
    | some f=>match callFn P E f [v] l s with
     | some (.int (.ofNat n),s)=>match Nat.ble n 4000 with
      | true=>some (.int (.ofNat n),s)
      | false=>none
     | _=>none
    | none=>none
   | none=>none
  | _=>none
 | _=>none
noncomputable def callV (P:Pr) (N:Nms) (E:Ev) (f:Nat) (args:List AV) (l:Lo) (s:St):Option (AV × St):=
 match P.glob f with
 | some g=>match g with
  | .glo k=>match P.cls k with
   | some C=>match s.new (.attrs []) with
    | some (.ref d,s)=>match s.new (.inst k d) with
     | some (x,s)=>match callFn P E C.init (x::args) l s with
      | some (.non,s)=>some (x,s)
      | _=>none
     | none=>none
    | _=>none
   | none=>callFn P E k args l s
  | _=>none
 | none=>match Nat.beq f N.len with
  | true=>match args with
   | [v]=>lenV P E v l s
   | _=>none
  | false=>match Nat.beq f N.tuple with
   | true=>match args with
    | [.ref n]=>match s.h.get n with
     | some (.list xs)=>match small xs with
      | true=>some (.tup xs,s)
      | false=>none
     | _=>none
    | [.tup xs]=>some (.tup xs,s)
    | _=>none
   | false=>match Nat.beq f N.list with
    | true=>match args with
     | [.tup xs]=>match small xs with
      | true=>s.new (.list xs)
      | false=>none
     | _=>none
    | false=>match Nat.beq f N.min with
     | true=>match args with
      | [.int i,.int j]=>match ltI j i with
       | true=>some (.int j,s)
       | false=>some (.int i,s)
      | _=>none
     | false=>match Nat.beq f N.set_ with
      | true=>match args with
       | []=>s.new (.set [])
       | _=>none
      | false=>match Nat.beq f N.getattr with
       | true=>match args with
        | [.ref n,.str t,d]=>match beqS t [108,114,48,95,97,100,100,101,100] with
         | true=>match s.h.get n with
          | some (.inst c dd)=>match s.h.get dd with
           | some (.attrs es)=>match P.cls c with
            | some C=>match findA N.lr0_added C.plain with
             | none=>match findA N.lr0_added es with
              | some v=>match handed v with
               | true=>some (v,s)
               | false=>none
              | none=>some (d,s)
             | some _=>none
            | none=>none
           | _=>none
          | _=>none
         | false=>none
        | _=>none
       | false=>none
noncomputable def constKeys:List (AV × AV)→AV→Option (List (AV × AV))
 | [],_=>some []
 | e::r,v=>match constKeys r v with
  | some r=>some ((e.1,v)::r)
  | none=>none
noncomputable def evStep (P:Pr) (N:Nms) (E:Ev) (e:CE) (l:Lo) (s:St):Option (AV × St):=match e with
 | .non _=>some (.non,s)
 | .boo b _=>some (.boo b,s)
 | .num n _=>some (.int (.ofNat n),s)
 | .str k _=>some (.str (P.strq k),s)
 | .loc x _=>match l.get x with
  | some v=>some (v,s)
  | none=>none
 | .gl x _=>match P.glob x with
  | some v=>some (v,s)
  | none=>none
 | .attr e a _=>match E.ev e l s with
  | some (v,s)=>match getA P v a s with
   | some r=>some (r,s)
   | none=>none
  | none=>none
 | .sub e i _=>match E.ev e l s with
  | some (v,s)=>match E.ev i l s with
   | some (k,s)=>match getI v k s with
    | some r=>some (r,s)
    | none=>none
   | none=>none
  | none=>none
 | .slc e lo hi _ _=>match E.ev e l s with
  | some (v,s)=>match optE (fun e s=>E.ev e l s) lo s with
   | some (a,s)=>match optE (fun e s=>E.ev e l s) hi s with
    | some (b,s)=>sliceV v a b s
    | none=>none
   | none=>none
  | none=>none
 | .cmp a op b _=>match E.ev a l s with
  | some (x,s)=>match E.ev b l s with
   | some (y,s)=>match cmpV op x y s with
    | some r=>some (.boo r,s)
    | none=>none
   | none=>none
  | none=>none
 | .neg e _=>match E.ev e l s with
  | some (.int i,s)=>plainI (-i) fun k=>some (.int k,s)
  | _=>none
 | .bin a op b _=>match E.ev a l s with
  | some (x,s)=>match E.ev b l s with
   | some (y,s)=>match preV op x y s with
    | some r=>some r
    | none=>binV op x y s
   | none=>none
  | none=>none
 | .ifx t a b _=>match E.tst t l s with
  | some (true,s)=>E.ev a l s
  | some (false,s)=>E.ev b l s
  | none=>none
 | .lst es _=>match small es with
  | true=>match evs (fun e s=>E.ev e l s) es s with
   | some (vs,s)=>s.new (.list vs)
   | none=>none
  | false=>none
 | .tup es _=>match small es with
  | true=>match evs (fun e s=>E.ev e l s) es s with
   | some (vs,s)=>some (.tup vs,s)
   | none=>none
  | false=>none
 | .dic _=>s.new (.dict [] 0)
 | .meth o m args _ _=>match o with
  | .gl x _=>match Nat.beq x N.dict with
   | true=>match Nat.beq m N.fromkeys with
    | true=>match args with
     | [a,b]=>match E.ev a l s with
      | some (.ref n,s)=>match E.ev b l s with
       | some (v,s)=>match s.h.get n with
        | some (.dict es _)=>match small es with
         | true=>match constKeys es v with
          | some es=>plainN (lenN es) fun n=>s.new (.dict es n)
          | none=>none
         | false=>none
        | _=>none
       | none=>none
      | _=>none
     | _=>none
    | false=>none
   | false=>none
  | _=>match E.ev o l s with
   | some (v,s)=>match peek v s with
    | some mk=>match evs (fun e s=>E.ev e l s) args s with
     | some (vs,s)=>methV P N E mk v m vs l s
     | none=>none
    | none=>none
   | none=>none
 | .calL x _ args _=>match l.get x with
  | some (.clo k fv)=>match P.clos k with
   | some F=>match evs (fun e s=>E.ev e l s) args s with
    | some (vs,s)=>match vs with
     | [v]=>match l.dep with
      | 0=>none
      | d+1=>match bindP 0 (v::fv) .nil with
       | some t=>E.ev F.2 ⟨d,t⟩ s
       | none=>none
     | _=>none
    | none=>none
   | none=>none
  | _=>none
 | .calG f _ args _=>match Nat.beq f N.list with
  | true=>match args with
   | [.meth o m [] _ _]=>match Nat.beq m N.values with
    | true=>match E.ev o l s with
     | some (.ref n,s)=>match s.h.get n with
      | some (.dict es _)=>match small es with
       | true=>match vals es with
        | some vs=>s.new (.list vs)
        | none=>none
       | false=>none
      | _=>none
     | _=>none
    | false=>none
   | _=>match evs (fun e s=>E.ev e l s) args s with
    | some (vs,s)=>callV P N E f vs l s
    | none=>none
  | false=>match evs (fun e s=>E.ev e l s) args s with
   | some (vs,s)=>callV P N E f vs l s
   | none=>none
 | _=>none
noncomputable def tstStep (P:Pr) (E:Ev) (e:CE) (l:Lo) (s:St):Option (Bool × St):=match e with
 | .not e _=>match E.tst e l s with
  | some (b,s)=>some (!b,s)
  | none=>none
 | .and es _=>allT (fun e s=>E.tst e l s) true es s
 | .or es _=>allT (fun e s=>E.tst e l s) false es s
 | .cmp a op b _=>match E.ev a l s with
  | some (x,s)=>match E.ev b l s with
   | some (y,s)=>match cmpV op x y s with
    | some r=>some (r,s)
    | none=>none
   | none=>none
  | none=>none
 | .ifx _ _ _ _=>none
 | _=>match E.ev e l s with
  | some (v,s)=>match truth P v s with
   | some b=>some (b,s)
   | none=>none
  | none=>none
noncomputable def setT:List (Nat × Pos)→List AV→Lo→Option Lo
 | [],[],l=>some l
 | x::xs,v::vs,l=>match l.set x.1 v with
  | some l=>setT xs vs l
  | none=>none
 | _,_,_=>none
noncomputable def bindT (t:Tgt) (v:AV) (l:Lo):Option Lo:=match t with
 | .one x _=>l.set x v
 | .two xs _=>match v with
  | .tup vs=>setT xs vs l
  | _=>none
inductive It where
 | list (n i:Nat)
 | vals (xs:List AV)
 | keys (n ep len i:Nat)
 | items (n ep len i:Nat)
 | enumL (n i:Nat)
 | enumT (xs:List AV) (i:Nat)
 | range (i n:Nat)
noncomputable def It.ctorIdx (x:It):Nat:= @It.casesOn (fun u=>Nat) x (fun u u=>0) (fun u=>1) (fun u u u u=>2) (fun u u u u=>3) (fun u u=>4) (fun u u=>5) (fun u u=>6)
noncomputable def itNext (it:It) (s:St):Option (Option (AV × It)):=match it with
 | .list n i=>match s.h.get n with
  | some (.list xs)=>match nth xs i with
   | some v=>plainN (i+1) fun j=>some (some (v,.list n j))
   | none=>some none
  | _=>none
 | .vals xs=>match xs with
  | []=>some none
  | v::r=>some (some (v,.vals r))
 | .keys n ep len i=>match s.h.get n with
  | some (.dict es ep')=>match Nat.beq ep ep' with
   | true=>match Nat.beq len (lenN es) with
    | true=>match nth es i with
     | none=>some none
     | some e=>plainN (i+1) fun j=>some (some (e.1,.keys n ep len j))
    | false=>none
   | false=>none
  | _=>none
 | .items n ep len i=>match s.h.get n with
  | some (.dict es ep')=>match Nat.beq ep ep' with
   | true=>match Nat.beq len (lenN es) with
    | true=>match nth es i with
     | none=>some none
     | some e=>plainN (i+1) fun j=>some (some (.tup [e.1,e.2],.items n ep len j))
    | false=>none
   | false=>none
  | _=>none
 | .enumL n i=>match s.h.get n with
  | some (.list xs)=>match nth xs i with
   | some v=>plainN (i+1) fun j=>some (some (.tup [.int (.ofNat i),v],.enumL n j))
   | none=>some none
  | _=>none
 | .enumT xs i=>match xs with
  | []=>some none
  | v::r=>plainN (i+1) fun j=>some (some (.tup [.int (.ofNat i),v],.enumT r j))
 | .range i n=>match Nat.blt i n with
  | true=>plainN (i+1) fun j=>some (some (.int (.ofNat i),.range j n))
  | false=>some none
noncomputable def iterOf (v:AV) (s:St):Option It:=match v with
 | .tup xs=>some (.vals xs)
 | .ref n=>match s.h.get n with
  | some (.list _)=>some (.list n 0)
  | some (.dict es ep)=>match small es with
   | true=>plainN (lenN es) fun k=>some (.keys n ep k 0)
   | false=>none
  | _=>none
 | _=>none
noncomputable def startIt (N:Nms) (E:Ev) (e:CE) (l:Lo) (s:St):Option (It × St):=match e with
 | .calG f _ args _=>match Nat.beq f N.enumerate with
  | true=>match args with
   | [a]=>match E.ev a l s with
    | some (.tup xs,s)=>some (.enumT xs 0,s)
    | some (.ref n,s)=>match s.h.get n with
     | some (.list _)=>some (.enumL n 0,s)
     | _=>none
    | _=>none
   | _=>none
  | false=>match Nat.beq f N.range with
   | true=>match args with
    | [.num k _]=>match Nat.ble k 4000 with
     | true=>some (.range 0 k,s)
     | false=>none
    | _=>none
   | false=>match E.ev e l s with
    | some (v,s)=>match iterOf v s with
     | some it=>some (it,s)
     | none=>none
    | none=>none
 | .meth o m args _ _=>match Nat.beq m N.items with
  | true=>match args with
   | []=>match E.ev o l s with
    | some (.ref n,s)=>match s.h.get n with
     | some (.dict es ep)=>match small es with
      | true=>plainN (lenN es) fun k=>some (.items n ep k 0,s)
      | false=>none
     | _=>none
    | _=>none
   | _=>none
  | false=>match E.ev e l s with
   | some (v,s)=>match iterOf v s with
    | some it=>some (it,s)
    | none=>none
   | none=>none
 | _=>match E.ev e l s with
  | some (v,s)=>match iterOf v s with
   | some it=>some (it,s)
   | none=>none
  | none=>none
noncomputable def forLoop (E:Ev) (t:Tgt) (b c:List CS):Nat→It→Lo→St→Option (Fl × Lo × St)
 | 0,_,_,_=>none
 | f+1,it,l,s=>match itNext it s with
  | some (some (v,it))=>match bindT t v l with
   | some l=>match E.exs b l s with
    | some (fl,l,s)=>match fl with
     | .next=>forLoop E t b c f it l s
     | .cont=>forLoop E t b c f it l s
     | .brk=>some (.next,l,s)
     | .ret v=>some (.ret v,l,s)
    | none=>none
   | none=>none
  | some none=>E.exs c l s
  | none=>none
noncomputable def whlLoop (E:Ev) (t:CE) (b c:List CS):Nat→Lo→St→Option (Fl × Lo × St)
 | 0,_,_=>none
 | f+1,l,s=>match E.tst t l s with
  | some (true,s)=>match E.exs b l s with
   | some (fl,l,s)=>match fl with
    | .next=>whlLoop E t b c f l s
    | .cont=>whlLoop E t b c f l s
    | .brk=>some (.next,l,s)
    | .ret v=>some (.ret v,l,s)
   | none=>none
  | some (false,s)=>E.exs c l s
  | none=>none
noncomputable def exStep (P:Pr) (N:Nms) (E:Ev) (c:CS) (l:Lo) (s:St):Option (Fl × Lo × St):=match c with
 | .expr e _=>match E.ev e l s with
  | some (_,s)=>some (.next,l,s)
  | none=>none
 | .asgN x _ e _=>match E.ev e l s with
  | some (v,s)=>match l.set x v with
   | some l=>some (.next,l,s)
   | none=>none
  | none=>none
 | .asgA o a _ e _=>match E.ev e l s with
  | some (v,s)=>match E.ev o l s with
   | some (ov,s)=>match setA P ov a v s with
    | some s=>some (.next,l,s)
    | none=>none
   | none=>none
  | none=>none
 | .asgS o i _ e _=>match E.ev e l s with
  | some (v,s)=>match E.ev o l s with
   | some (ov,s)=>match E.ev i l s with
    | some (iv,s)=>match setI ov iv v s with
     | some s=>some (.next,l,s)
     | none=>none
    | none=>none
   | none=>none
  | none=>none
 | .asgT xs _ e _=>match E.ev e l s with
  | some (.tup vs,s)=>match setT xs vs l with
   | some l=>some (.next,l,s)
   | none=>none
  | _=>none
 | .augN x _ op e _=>match l.get x with
  | some old=>match E.ev e l s with
   | some (v,s)=>match old with
    | .ref n=>match op with
     | .Add=>match v with
      | .ref m=>match s.h.get n with
       | _=>none
      | _=>none
     | _=>none
    | _=>match binV op old v s with
     | some (r,s)=>match l.set x r with
      | some l=>some (.next,l,s)
      | none=>none
     | none=>none
   | none=>none
  | none=>none
 | .augA o a _ op e _=>match E.ev o l s with
  | some (ov,s)=>match getA P ov a s with
   | some old=>match E.ev e l s with
    | some (v,s)=>match augV op old v s with
     | some (r,s)=>match setA P ov a r s with
      | some s=>some (.next,l,s)
      | none=>none
     | none=>none
    | none=>none
   | none=>none
  | none=>none
 | .augS o i _ op e _=>match E.ev o l s with
  | some (ov,s)=>match E.ev i l s with
   | some (iv,s)=>match getI ov iv s with
    | some old=>match E.ev e l s with
     | some (v,s)=>match augV op old v s with
      | some (r,s)=>match setI ov iv r s with
       | some s=>some (.next,l,s)
       | none=>none
      | none=>none
     | none=>none
    | none=>none
   | none=>none
  | none=>none
 | .ife t b c _=>match E.tst t l s with
  | some (true,s)=>E.exs b l s
  | some (false,s)=>E.exs c l s
  | none=>none
 | .whl t b c _=>whlLoop E t b c 200 l s
 | .forr t e b c _=>match startIt N E e l s with
  | some (it,s)=>forLoop E t b c 200 it l s
  | none=>none
 | .ret e _=>match e with
  | some e=>match E.ev e l s with
   | some (v,s)=>some (.ret v,l,s)
   | none=>none
  | none=>some (.ret .non,l,s)
 | .brk _=>some (.brk,l,s)
 | .cont _=>some (.cont,l,s)
 | .pas _=>some (.next,l,s)
 | .asrt t _ _=>match E.tst t l s with
  | some (true,s)=>some (.next,l,s)
  | _=>none
 | .spec k _=>match P.spec k l s with
  | some (l,s)=>some (.next,l,s)
  | none=>none
 | .raw _=>none
noncomputable def exsStep (P:Pr) (N:Nms) (E:Ev):List CS→Lo→St→Option (Fl × Lo × St)
 | [],l,s=>some (.next,l,s)
 | c::r,l,s=>match exStep P N E c l s with
  | some (fl,l,s)=>match fl with
   | .next=>exsStep P N E r l s
   | _=>some (fl,l,s)
  | none=>none
noncomputable def stepE (P:Pr) (N:Nms) (E:Ev):Ev:=⟨evStep P N E,tstStep P E,exsStep P N E⟩
noncomputable def botE:Ev:=⟨fun uu uu uu=>none,fun uu uu uu=>none,fun uu uu uu=>none⟩
noncomputable def lvl (P:Pr) (N:Nms):Nat→Ev
 | 0=>botE
 | n+1=>stepE P N (lvl P N n)
theorem nos {α:Type} {a:α} {P:Prop} (h:none=some a):P:=nomatch h
theorem son {α:Type} {a:α} {P:Prop} (h:some a=none):P:=nomatch h
theorem fat {P:Prop} (h:false=true):P:=nomatch h
theorem taf {P:Prop} (h:true=false):P:=nomatch h
@[elab_as_elim] theorem e1 {α:Type} {a c:α} {m:α→Prop} (h:some a=some c) (k:m a):m c:=by (obtain rfl:=Qz h);exact k
@[elab_as_elim] theorem e2 {α β:Type} {a c:α} {b d:β} {m:α→β→Prop} (h:some (a,b)=some (c,d)) (k:m a b):m c d:=by cases h;exact k
@[elab_as_elim] theorem e3 {α β γ:Type} {a c:α} {b d:β} {x y:γ} {m:α→β→γ→Prop} (h:some (a,b,x)=some (c,d,y)) (k:m a b x):m c d y:=by cases h;exact k
@[elab_as_elim] theorem eep {α β:Type} {a c:α} {b d:β} {m:α→β→Prop} (h:(a,b)=(c,d)) (k:m a b):m c d:=by cases h;exact k
theorem i2 {α β:Type} {a c:α} {b d:β} (h:some (a,b)=some (c,d)):a=c∧b=d:=by refine e2 h ?_;exact ⟨rfl,rfl⟩
theorem i3 {α β γ:Type} {a c:α} {b d:β} {x y:γ} (h:some (a,b,x)=some (c,d,y)):a=c∧b=d∧x=y:=by refine e3 h ?_;exact ⟨rfl,rfl,rfl⟩
theorem oA {P0 P1:Prop} {r:Prop} (h:P0∧P1) (k:P0→P1→r):r:=by obtain ⟨h0,h1⟩:=h;exact k h0 h1
theorem oAA {P0 P1 P2:Prop} {r:Prop} (h:P0∧P1∧P2) (k:P0→P1→P2→r):r:=by obtain ⟨h0,h1,h2⟩:=h;exact k h0 h1 h2
theorem oAAA {P0 P1 P2 P3:Prop} {r:Prop} (h:P0∧P1∧P2∧P3) (k:P0→P1→P2→P3→r):r:=by obtain ⟨h0,h1,h2,h3⟩:=h;exact k h0 h1 h2 h3
theorem oAAAA {P0 P1 P2 P3 P4:Prop} {r:Prop} (h:P0∧P1∧P2∧P3∧P4) (k:P0→P1→P2→P3→P4→r):r:=by obtain ⟨h0,h1,h2,h3,h4⟩:=h;exact k h0 h1 h2 h3 h4
theorem oAAAAA {P0 P1 P2 P3 P4 P5:Prop} {r:Prop} (h:P0∧P1∧P2∧P3∧P4∧P5) (k:P0→P1→P2→P3→P4→P5→r):r:=by obtain ⟨h0,h1,h2,h3,h4,h5⟩:=h;exact k h0 h1 h2 h3 h4 h5
theorem oAAE {A0:Type} {P0 P1:Prop} {P2:A0→Prop} {r:Prop} (h:P0∧P1∧∃ a,P2 a) (k:P0→P1→∀ a,P2 a→r):r:=by obtain ⟨h0,h1,a,h2⟩:=h;exact k h0 h1 a h2
theorem oAE {A0:Type} {P0:Prop} {P1:A0→Prop} {r:Prop} (h:P0∧∃ a,P1 a) (k:P0→∀ a,P1 a→r):r:=by obtain ⟨h0,a,h1⟩:=h;exact k h0 a h1
theorem oAEAA {A0:Type} {P0:Prop} {P1 P2 P3:A0→Prop} {r:Prop} (h:P0∧∃ a,P1 a∧P2 a∧P3 a) (k:P0→∀ a,P1 a→P2 a→P3 a→r):r:=by obtain ⟨h0,a,h1,h2,h3⟩:=h;exact k h0 a h1 h2 h3
theorem oAEAAAA {A0:Type} {P0:Prop} {P1 P2 P3 P4 P5:A0→Prop} {r:Prop} (h:P0∧∃ a,P1 a∧P2 a∧P3 a∧P4 a∧P5 a) (k:P0→∀ a,P1 a→P2 a→P3 a→P4 a→P5 a→r):r:=by obtain ⟨h0,a,h1,h2,h3,h4,h5⟩:=h;exact k h0 a h1 h2 h3 h4 h5
theorem oAEEAAAAA {A0 A1:Type} {P0:Prop} {P1 P2 P3 P4 P5 P6:A0→A1→Prop} {r:Prop} (h:P0∧∃ a,∃ b,P1 a b∧P2 a b∧P3 a b∧P4 a b∧P5 a b∧P6 a b) (k:P0→∀ a,∀ b,P1 a b→P2 a b→P3 a b→P4 a b→P5 a b→P6 a b→r):r:=by obtain ⟨h0,a,b,h1,h2,h3,h4,h5,h6⟩:=h;exact k h0 a b h1 h2 h3 h4 h5 h6
theorem oAEEEAAAA {A0 A1 A2:Type} {P0:Prop} {P1 P2 P3 P4 P5:A0→A1→A2→Prop} {r:Prop} (h:P0∧∃ a,∃ b,∃ c,P1 a b c∧P2 a b c∧P3 a b c∧P4 a b c∧P5 a b c) (k:P0→∀ a,∀ b,∀ c,P1 a b c→P2 a b c→P3 a b c→P4 a b c→P5 a b c→r):r:=by obtain ⟨h0,a,b,c,h1,h2,h3,h4,h5⟩:=h;exact k h0 a b c h1 h2 h3 h4 h5
theorem oAEEEEAA {A0 A1 A2 A3:Type} {P0:Prop} {P1 P2 P3:A0→A1→A2→A3→Prop} {r:Prop} (h:P0∧∃ a,∃ b,∃ c,∃ d,P1 a b c d∧P2 a b c d∧P3 a b c d) (k:P0→∀ a,∀ b,∀ c,∀ d,P1 a b c d→P2 a b c d→P3 a b c d→r):r:=by obtain ⟨h0,a,b,c,d,h1,h2,h3⟩:=h;exact k h0 a b c d h1 h2 h3
theorem oE {A0:Type} {P0:A0→Prop} {r:Prop} (h:∃ a,P0 a) (k:∀ a,P0 a→r):r:=by obtain ⟨a,h0⟩:=h;exact k a h0
theorem oEA {A0:Type} {P0 P1:A0→Prop} {r:Prop} (h:∃ a,P0 a∧P1 a) (k:∀ a,P0 a→P1 a→r):r:=by obtain ⟨a,h0,h1⟩:=h;exact k a h0 h1
theorem oEAA {A0:Type} {P0 P1 P2:A0→Prop} {r:Prop} (h:∃ a,P0 a∧P1 a∧P2 a) (k:∀ a,P0 a→P1 a→P2 a→r):r:=by obtain ⟨a,h0,h1,h2⟩:=h;exact k a h0 h1 h2
theorem oEAAA {A0:Type} {P0 P1 P2 P3:A0→Prop} {r:Prop} (h:∃ a,P0 a∧P1 a∧P2 a∧P3 a) (k:∀ a,P0 a→P1 a→P2 a→P3 a→r):r:=by obtain ⟨a,h0,h1,h2,h3⟩:=h;exact k a h0 h1 h2 h3
theorem oEAAE {A0 A1:Type} {P0 P1:A0→Prop} {P2:A0→A1→Prop} {r:Prop} (h:∃ a,P0 a∧P1 a∧∃ b,P2 a b) (k:∀ a,P0 a→P1 a→∀ b,P2 a b→r):r:=by obtain ⟨a,h0,h1,b,h2⟩:=h;exact k a h0 h1 b h2
theorem oEAEEAAAAAA {A0 A1 A2:Type} {P0:A0→Prop} {P1 P2 P3 P4 P5 P6 P7:A0→A1→A2→Prop} {r:Prop} (h:∃ a,P0 a∧∃ b,∃ c,P1 a b c∧P2 a b c∧P3 a b c∧P4 a b c∧P5 a b c∧P6 a b c∧P7 a b c) (k:∀ a,P0 a→∀ b,∀ c,P1 a b c→P2 a b c→P3 a b c→P4 a b c→P5 a b c→P6 a b c→P7 a b c→r):r:=by obtain ⟨a,h0,b,c,h1,h2,h3,h4,h5,h6,h7⟩:=h;exact k a h0 b c h1 h2 h3 h4 h5 h6 h7
theorem oEE {A0 A1:Type} {P0:A0→A1→Prop} {r:Prop} (h:∃ a,∃ b,P0 a b) (k:∀ a,∀ b,P0 a b→r):r:=by obtain ⟨a,b,h0⟩:=h;exact k a b h0
theorem oEEA {A0 A1:Type} {P0 P1:A0→A1→Prop} {r:Prop} (h:∃ a,∃ b,P0 a b∧P1 a b) (k:∀ a,∀ b,P0 a b→P1 a b→r):r:=by obtain ⟨a,b,h0,h1⟩:=h;exact k a b h0 h1
theorem oEEAA {A0 A1:Type} {P0 P1 P2:A0→A1→Prop} {r:Prop} (h:∃ a,∃ b,P0 a b∧P1 a b∧P2 a b) (k:∀ a,∀ b,P0 a b→P1 a b→P2 a b→r):r:=by obtain ⟨a,b,h0,h1,h2⟩:=h;exact k a b h0 h1 h2
theorem Yg {A0 A1:Type} {P0 P1 P2 P3:A0→A1→Prop} {r:Prop} (h:∃ a,∃ b,P0 a b∧P1 a b∧P2 a b∧P3 a b) (k:∀ a,∀ b,P0 a b→P1 a b→P2 a b→P3 a b→r):r:=by obtain ⟨a,b,h0,h1,h2,h3⟩:=h;exact k a b h0 h1 h2 h3
theorem oEEEA {A0 A1 A2:Type} {P0 P1:A0→A1→A2→Prop} {r:Prop} (h:∃ a,∃ b,∃ c,P0 a b c∧P1 a b c) (k:∀ a,∀ b,∀ c,P0 a b c→P1 a b c→r):r:=by obtain ⟨a,b,c,h0,h1⟩:=h;exact k a b c h0 h1
theorem oEEEAA {A0 A1 A2:Type} {P0 P1 P2:A0→A1→A2→Prop} {r:Prop} (h:∃ a,∃ b,∃ c,P0 a b c∧P1 a b c∧P2 a b c) (k:∀ a,∀ b,∀ c,P0 a b c→P1 a b c→P2 a b c→r):r:=by obtain ⟨a,b,c,h0,h1,h2⟩:=h;exact k a b c h0 h1 h2
theorem Yd {A0 A1 A2:Type} {P0 P1 P2 P3:A0→A1→A2→Prop} {r:Prop} (h:∃ a,∃ b,∃ c,P0 a b c∧P1 a b c∧P2 a b c∧P3 a b c) (k:∀ a,∀ b,∀ c,P0 a b c→P1 a b c→P2 a b c→P3 a b c→r):r:=by obtain ⟨a,b,c,h0,h1,h2,h3⟩:=h;exact k a b c h0 h1 h2 h3
theorem oEEEAAAA {A0 A1 A2:Type} {P0 P1 P2 P3 P4:A0→A1→A2→Prop} {r:Prop} (h:∃ a,∃ b,∃ c,P0 a b c∧P1 a b c∧P2 a b c∧P3 a b c∧P4 a b c) (k:∀ a,∀ b,∀ c,P0 a b c→P1 a b c→P2 a b c→P3 a b c→P4 a b c→r):r:=by obtain ⟨a,b,c,h0,h1,h2,h3,h4⟩:=h;exact k a b c h0 h1 h2 h3 h4
theorem oEEEAAAAA {A0 A1 A2:Type} {P0 P1 P2 P3 P4 P5:A0→A1→A2→Prop} {r:Prop} (h:∃ a,∃ b,∃ c,P0 a b c∧P1 a b c∧P2 a b c∧P3 a b c∧P4 a b c∧P5 a b c) (k:∀ a,∀ b,∀ c,P0 a b c→P1 a b c→P2 a b c→P3 a b c→P4 a b c→P5 a b c→r):r:=by obtain ⟨a,b,c,h0,h1,h2,h3,h4,h5⟩:=h;exact k a b c h0 h1 h2 h3 h4 h5
theorem oEEEEAA {A0 A1 A2 A3:Type} {P0 P1 P2:A0→A1→A2→A3→Prop} {r:Prop} (h:∃ a,∃ b,∃ c,∃ d,P0 a b c d∧P1 a b c d∧P2 a b c d) (k:∀ a,∀ b,∀ c,∀ d,P0 a b c d→P1 a b c d→P2 a b c d→r):r:=by obtain ⟨a,b,c,d,h0,h1,h2⟩:=h;exact k a b c d h0 h1 h2
theorem oEEEEAAA {A0 A1 A2 A3:Type} {P0 P1 P2 P3:A0→A1→A2→A3→Prop} {r:Prop} (h:∃ a,∃ b,∃ c,∃ d,P0 a b c d∧P1 a b c d∧P2 a b c d∧P3 a b c d) (k:∀ a,∀ b,∀ c,∀ d,P0 a b c d→P1 a b c d→P2 a b c d→P3 a b c d→r):r:=by obtain ⟨a,b,c,d,h0,h1,h2,h3⟩:=h;exact k a b c d h0 h1 h2 h3
theorem oEEEEAAAA {A0 A1 A2 A3:Type} {P0 P1 P2 P3 P4:A0→A1→A2→A3→Prop} {r:Prop} (h:∃ a,∃ b,∃ c,∃ d,P0 a b c d∧P1 a b c d∧P2 a b c d∧P3 a b c d∧P4 a b c d) (k:∀ a,∀ b,∀ c,∀ d,P0 a b c d→P1 a b c d→P2 a b c d→P3 a b c d→P4 a b c d→r):r:=by obtain ⟨a,b,c,d,h0,h1,h2,h3,h4⟩:=h;exact k a b c d h0 h1 h2 h3 h4
theorem oEEEEAAAAAA {A0 A1 A2 A3:Type} {P0 P1 P2 P3 P4 P5 P6:A0→A1→A2→A3→Prop} {r:Prop} (h:∃ a,∃ b,∃ c,∃ d,P0 a b c d∧P1 a b c d∧P2 a b c d∧P3 a b c d∧P4 a b c d∧P5 a b c d∧P6 a b c d) (k:∀ a,∀ b,∀ c,∀ d,P0 a b c d→P1 a b c d→P2 a b c d→P3 a b c d→P4 a b c d→P5 a b c d→P6 a b c d→r):r:=by obtain ⟨a,b,c,d,h0,h1,h2,h3,h4,h5,h6⟩:=h;exact k a b c d h0 h1 h2 h3 h4 h5 h6
theorem oEEEEEEEEEA {A0 A1 A2 A3 A4 A5 A6 A7 A8:Type} {P0 P1:A0→A1→A2→A3→A4→A5→A6→A7→A8→Prop} {r:Prop} (h:∃ a,∃ b,∃ c,∃ d,∃ e,∃ f,∃ g,∃ i,∃ j,P0 a b c d e f g i j∧P1 a b c d e f g i j) (k:∀ a,∀ b,∀ c,∀ d,∀ e,∀ f,∀ g,∀ i,∀ j,P0 a b c d e f g i j→P1 a b c d e f g i j→r):r:=by obtain ⟨a,b,c,d,e,f,g,i,j,h0,h1⟩:=h;exact k a b c d e f g i j h0 h1
section
variable {β:Type} {r:β} {P:Prop}
theorem m2 {x:Option (AV × St)} {A:AV→St→Option β} (h:(match x with | some (a0,a1)=>A a0 a1 | none=>none)=some r) (k:∀ a0 a1,A a0 a1=some r→x=some (a0,a1)→P):P:=by walk_at "mp"
theorem m8 {x:Option AV} {A:AV→Option β} (h:(match x with | some a0=>A a0 | none=>none)=some r) (k:∀ a0,A a0=some r→x=some a0→P):P:=by walk_at "mp"
theorem m9 {x:Option Cls} {A:Cls→Option β} (h:(match x with | some a0=>A a0 | none=>none)=some r) (k:∀ a0,A a0=some r→x=some a0→P):P:=by walk_at "mp"
theorem m10 {x:Option St} {A:St→Option β} (h:(match x with | some a0=>A a0 | none=>none)=some r) (k:∀ a0,A a0=some r→x=some a0→P):P:=by walk_at "mp"
theorem m12 {x:Bool} {A:Option β} (h:(match x with | true=>A | false=>none)=some r) (k:A=some r→x=true→P):P:=by walk_at "mp"
theorem m13 {x:Option (List AV)} {A:List AV→Option β} (h:(match x with | some a0=>A a0 | none=>none)=some r) (k:∀ a0,A a0=some r→x=some a0→P):P:=by walk_at "mp"
theorem m14 {x:Option Nat} {A:Nat→Option β} (h:(match x with | some a0=>A a0 | none=>none)=some r) (k:∀ a0,A a0=some r→x=some a0→P):P:=by walk_at "mp"
theorem m15 {x:Option (List (Nat × AV))} {A:List (Nat × AV)→Option β} (h:(match x with | some a0=>A a0 | none=>none)=some r) (k:∀ a0,A a0=some r→x=some a0→P):P:=by walk_at "mp"
theorem m16 {x:Option Lo} {A:Lo→Option β} (h:(match x with | some a0=>A a0 | none=>none)=some r) (k:∀ a0,A a0=some r→x=some a0→P):P:=by walk_at "mp"
set_option tactic.hygienic true in
theorem m19 {x:Option AO} {A:List (AV × AV)→Nat→Option β} (h:(match x with | some (.dict a0 a1)=>A a0 a1 | _=>none)=some r) (k:∀ a0 a1,A a0 a1=some r→x=some (.dict a0 a1)→P):P:=by walk_at "mp"
theorem m20 {x:Option Bool} {A:Bool→Option β} (h:(match x with | some a0=>A a0 | none=>none)=some r) (k:∀ a0,A a0=some r→x=some a0→P):P:=by walk_at "mp"
set_option tactic.hygienic true in
theorem m22 {x:Option AO} {A:List (Nat × AV)→Option β} (h:(match x with | some (.attrs a0)=>A a0 | _=>none)=some r) (k:∀ a0,A a0=some r→x=some (.attrs a0)→P):P:=by walk_at "mp"
set_option tactic.hygienic true in
theorem m26 {x:Option AO} {A:Nat→Nat→Option β} (h:(match x with | some (.inst a0 a1)=>A a0 a1 | _=>none)=some r) (k:∀ a0 a1,A a0 a1=some r→x=some (.inst a0 a1)→P):P:=by walk_at "mp"
theorem m27 {x:Option (List AV × St)} {A:List AV→St→Option β} (h:(match x with | some (a0,a1)=>A a0 a1 | none=>none)=some r) (k:∀ a0 a1,A a0 a1=some r→x=some (a0,a1)→P):P:=by walk_at "mp"
theorem m28 {x:Option (Tr AV)} {A:Tr AV→Option β} (h:(match x with | some a0=>A a0 | none=>none)=some r) (k:∀ a0,A a0=some r→x=some a0→P):P:=by walk_at "mp"
theorem m32 {x:Option (Fl × Lo × St)} {A:Fl→Lo→St→Option β} (h:(match x with | some (a0,(a1,a2))=>A a0 a1 a2 | none=>none)=some r) (k:∀ a0 a1 a2,A a0 a1 a2=some r→x=some (a0,(a1,a2))→P):P:=by walk_at "mp"
set_option tactic.hygienic true in
theorem m34 {x:AV} {A:Nat→Option β} (h:(match x with | .int (.ofNat a0)=>A a0 | _=>none)=some r) (k:∀ a0,A a0=some r→x= .int (.ofNat a0)→P):P:=by walk_at "mp"
theorem m37 {x:Option (AV × St)} {A:Nat→St→Option β} (h:(match x with | some ((.ref a0),a1)=>A a0 a1 | _=>none)=some r) (k:∀ a0 a1,A a0 a1=some r→x=some ((.ref a0),a1)→P):P:=by
 cases x with
 | some y00=>
  cases y00 with
  | mk y10 y11=>
   cases y10 with
   | ref y20=>
    exact k y20 y11 h rfl
   | _=>exact nos h
 | _=>exact nos h
set_option tactic.hygienic true in
theorem m44 {x:List AV} {A:AV→Option β} (h:(match x with | (a0::[])=>A a0 | _=>none)=some r) (k:∀ a0,A a0=some r→x=(a0::[])→P):P:=by walk_at "mp"
theorem m47 {x:Option (Bool × St)} {A:Bool→St→Option β} (h:(match x with | some (a0,a1)=>A a0 a1 | none=>none)=some r) (k:∀ a0 a1,A a0 a1=some r→x=some (a0,a1)→P):P:=by walk_at "mp"
theorem m48 {x:Option (Tr AO)} {A:Tr AO→Option β} (h:(match x with | some a0=>A a0 | none=>none)=some r) (k:∀ a0,A a0=some r→x=some a0→P):P:=by walk_at "mp"
theorem m49 {x:Option (Bool × List (AV × AV))} {A:Bool→List (AV × AV)→Option β} (h:(match x with | some (a0,a1)=>A a0 a1 | none=>none)=some r) (k:∀ a0 a1,A a0 a1=some r→x=some (a0,a1)→P):P:=by walk_at "mp"
theorem m50 {x:List CE} {A:Nat→PySem.Pos→Option β} (h:(match x with | ((.num a0 a1)::[])=>A a0 a1 | _=>none)=some r) (k:∀ a0 a1,A a0 a1=some r→x=((.num a0 a1)::[])→P):P:=by
 cases x with
 | cons y00 y01=>
  cases y00 with
  | num y10 y11=>
   cases y01 with
   | nil=>
    exact k y10 y11 h rfl
   | _=>exact nos h
  | _=>exact nos h
 | _=>exact nos h
theorem m58 {x:Option (AV × St)} {A:Int→St→Option β} (h:(match x with | some ((.int a0),a1)=>A a0 a1 | _=>none)=some r) (k:∀ a0 a1,A a0 a1=some r→x=some ((.int a0),a1)→P):P:=by
 cases x with
 | some y00=>
  cases y00 with
  | mk y10 y11=>
   cases y10 with
   | int y20=>
    exact k y20 y11 h rfl
   | _=>exact nos h
 | _=>exact nos h
theorem m63 {x:List AV} {A:Option β} (h:(match x with | []=>A | _=>none)=some r) (k:A=some r→x=[]→P):P:=by walk_at "mp"
theorem m68 {x:Option (Option AV)} {A:Option AV→Option β} (h:(match x with | some a0=>A a0 | none=>none)=some r) (k:∀ a0,A a0=some r→x=some a0→P):P:=by walk_at "mp"
theorem m71 {x:Option (Option Int × St)} {A:Option Int→St→Option β} (h:(match x with | some (a0,a1)=>A a0 a1 | none=>none)=some r) (k:∀ a0 a1,A a0 a1=some r→x=some (a0,a1)→P):P:=by walk_at "mp"
theorem m72 {x:AV} {A:List Nat→Option β} (h:(match x with | .str a0=>A a0 | _=>none)=some r) (k:∀ a0,A a0=some r→x= .str a0→P):P:=by walk_at "mp"
set_option tactic.hygienic true in
theorem m73 {x:Option AO} {A:List AV→Option β} (h:(match x with | some (.list a0)=>A a0 | _=>none)=some r) (k:∀ a0,A a0=some r→x=some (.list a0)→P):P:=by walk_at "mp"
theorem m75 {x:AV} {A:Option β} (h:(match x with | .non=>A | _=>none)=some r) (k:A=some r→x= .non→P):P:=by walk_at "mp"
theorem m87 {x:Option AO} {A:AO→Option β} (h:(match x with | some a0=>A a0 | none=>none)=some r) (k:∀ a0,A a0=some r→x=some a0→P):P:=by walk_at "mp"
theorem m90 {x:Option Nat} {A:Option β} (h:(match x with | none=>A | some a0=>none)=some r) (k:A=some r→x=none→P):P:=by walk_at "mp"
set_option tactic.hygienic true in
theorem m99 {x:List CE} {A:CE→Option β} (h:(match x with | (a0::[])=>A a0 | _=>none)=some r) (k:∀ a0,A a0=some r→x=(a0::[])→P):P:=by walk_at "mp"
theorem m100 {x:List CE} {A:Option β} (h:(match x with | []=>A | _=>none)=some r) (k:A=some r→x=[]→P):P:=by walk_at "mp"
theorem m106 {α:Type} {x:Option (List α)} {A:List α→Option β} (h:(match x with | some a0=>A a0 | none=>none)=some r) (k:∀ a0,A a0=some r→x=some a0→P):P:=by walk_at "mp"
set_option tactic.hygienic true in
theorem m108 {x:Option Int} {A:Nat→Option β} (h:(match x with | some (.ofNat a0)=>A a0 | _=>none)=some r) (k:∀ a0,A a0=some r→x=some (.ofNat a0)→P):P:=by walk_at "mp"
theorem m109 {x:List AV} {A:List Nat→Option β} (h:(match x with | ((.str a0)::[])=>A a0 | _=>none)=some r) (k:∀ a0,A a0=some r→x=((.str a0)::[])→P):P:=by
 cases x with
 | cons y00 y01=>
  cases y00 with
  | str y10=>
   cases y01 with
   | nil=>
    exact k y10 h rfl
   | _=>exact nos h
  | _=>exact nos h
 | _=>exact nos h
set_option tactic.hygienic true in
theorem m116 {x:Option AO} {A:AV→Option β} (h:(match x with | some (.list (a0::[]))=>A a0 | _=>none)=some r) (k:∀ a0,A a0=some r→x=some (.list (a0::[]))→P):P:=by walk_at "mp"
set_option tactic.hygienic true in
theorem m130 {x:Option AO} {A:List AV→Option β} (h:(match x with | some (.set a0)=>A a0 | _=>none)=some r) (k:∀ a0,A a0=some r→x=some (.set a0)→P):P:=by walk_at "mp"
theorem m133 {x:List AV} {A:Nat→AV→Option β} (h:(match x with | ((.int (.ofNat a0))::(a1::[]))=>A a0 a1 | _=>none)=some r) (k:∀ a0 a1,A a0 a1=some r→x=((.int (.ofNat a0))::(a1::[]))→P):P:=by
 cases x with
 | cons y00 y01=>
  cases y00 with
  | int y10=>
   cases y10 with
   | ofNat y20=>
    cases y01 with
    | cons y30 y31=>
     cases y31 with
     | nil=>
      exact k y20 y30 h rfl
     | _=>exact nos h
    | _=>exact nos h
   | _=>exact nos h
  | _=>exact nos h
 | _=>exact nos h
theorem m134 {x:Option (List AV × AV)} {A:List AV→AV→Option β} (h:(match x with | some (a0,a1)=>A a0 a1 | none=>none)=some r) (k:∀ a0 a1,A a0 a1=some r→x=some (a0,a1)→P):P:=by walk_at "mp"
theorem m136 {x:Option (AV × St)} {A:Nat→St→Option β} (h:(match x with | some ((.int (.ofNat a0)),a1)=>A a0 a1 | _=>none)=some r) (k:∀ a0 a1,A a0 a1=some r→x=some ((.int (.ofNat a0)),a1)→P):P:=by
 cases x with
 | some y00=>
  cases y00 with
  | mk y10 y11=>
   cases y10 with
   | int y20=>
    cases y20 with
    | ofNat y30=>
     exact k y30 y11 h rfl
    | _=>exact nos h
   | _=>exact nos h
 | _=>exact nos h
theorem m160 {x:Option (It × St)} {A:It→St→Option β} (h:(match x with | some (a0,a1)=>A a0 a1 | none=>none)=some r) (k:∀ a0 a1,A a0 a1=some r→x=some (a0,a1)→P):P:=by walk_at "mp"
theorem m162 {x:Option (Bool × St)} {A:St→Option β} (h:(match x with | some (true,a0)=>A a0 | _=>none)=some r) (k:∀ a0,A a0=some r→x=some (true,a0)→P):P:=by
 cases x with
 | some y00=>
  cases y00 with
  | mk y10 y11=>
   cases y10 with
   | true=>
    exact k y11 h rfl
   | _=>exact nos h
 | _=>exact nos h
theorem m163 {x:Option (AV × St)} {A:List AV→St→Option β} (h:(match x with | some ((.tup a0),a1)=>A a0 a1 | _=>none)=some r) (k:∀ a0 a1,A a0 a1=some r→x=some ((.tup a0),a1)→P):P:=by
 cases x with
 | some y00=>
  cases y00 with
  | mk y10 y11=>
   cases y10 with
   | tup y20=>
    exact k y20 y11 h rfl
   | _=>exact nos h
 | _=>exact nos h
set_option tactic.hygienic true in
theorem m168 {x:List CE} {A:CE→CE→Option β} (h:(match x with | (a0::(a1::[]))=>A a0 a1 | _=>none)=some r) (k:∀ a0 a1,A a0 a1=some r→x=(a0::(a1::[]))→P):P:=by walk_at "mp"
set_option tactic.hygienic true in
theorem m171 {x:Option AV} {A:Nat→List AV→Option β} (h:(match x with | some (.clo a0 a1)=>A a0 a1 | _=>none)=some r) (k:∀ a0 a1,A a0 a1=some r→x=some (.clo a0 a1)→P):P:=by walk_at "mp"
theorem m172 {x:Option (Nat × CE)} {A:Nat × CE→Option β} (h:(match x with | some a0=>A a0 | none=>none)=some r) (k:∀ a0,A a0=some r→x=some a0→P):P:=by walk_at "mp"
theorem m173 {x:AV} {A:Int→Option β} (h:(match x with | .int a0=>A a0 | _=>none)=some r) (k:∀ a0,A a0=some r→x= .int a0→P):P:=by walk_at "mp"
theorem m174 {x:AV} {A:Nat→Option β} (h:(match x with | .ref a0=>A a0 | _=>none)=some r) (k:∀ a0,A a0=some r→x= .ref a0→P):P:=by walk_at "mp"
theorem m175 {x:AV} {A:List AV→Option β} (h:(match x with | .tup a0=>A a0 | _=>none)=some r) (k:∀ a0,A a0=some r→x= .tup a0→P):P:=by walk_at "mp"
theorem m178 {α:Type} {x:Option (List α × α)} {A:List α→α→Option β} (h:(match x with | some (a0,a1)=>A a0 a1 | none=>none)=some r) (k:∀ a0 a1,A a0 a1=some r→x=some (a0,a1)→P):P:=by walk_at "mp"
set_option tactic.hygienic true in
theorem m180 {x:List AV} {A:AV→AV→Option β} (h:(match x with | (a0::(a1::[]))=>A a0 a1 | _=>none)=some r) (k:∀ a0 a1,A a0 a1=some r→x=(a0::(a1::[]))→P):P:=by walk_at "mp"
theorem m182 {x:Option Int} {A:Option β} (h:(match x with | none=>A | some a0=>none)=some r) (k:A=some r→x=none→P):P:=by walk_at "mp"
theorem m191 {x:AV} {A:Nat→Option β} (h:(match x with | .glo a0=>A a0 | _=>none)=some r) (k:∀ a0,A a0=some r→x= .glo a0→P):P:=by walk_at "mp"
theorem m192 {x:List AV} {A:Nat→List Nat→AV→Option β} (h:(match x with | ((.ref a0)::((.str a1)::(a2::[])))=>A a0 a1 a2 | _=>none)=some r) (k:∀ a0 a1 a2,A a0 a1 a2=some r→x=((.ref a0)::((.str a1)::(a2::[])))→P):P:=by
 cases x with
 | cons y00 y01=>
  cases y00 with
  | ref y10=>
   cases y01 with
   | cons y20 y21=>
    cases y20 with
    | str y30=>
     cases y21 with
     | cons y40 y41=>
      cases y41 with
      | nil=>
       exact k y10 y30 y40 h rfl
      | _=>exact nos h
     | _=>exact nos h
    | _=>exact nos h
   | _=>exact nos h
  | _=>exact nos h
 | _=>exact nos h
theorem m193 {x:Option AV} {A:Option β} (h:(match x with | none=>A | some a0=>none)=some r) (k:A=some r→x=none→P):P:=by walk_at "mp"
theorem m194 {x:List AV} {A:Int→Int→Option β} (h:(match x with | ((.int a0)::((.int a1)::[]))=>A a0 a1 | _=>none)=some r) (k:∀ a0 a1,A a0 a1=some r→x=((.int a0)::((.int a1)::[]))→P):P:=by
 cases x with
 | cons y00 y01=>
  cases y00 with
  | int y10=>
   cases y01 with
   | cons y20 y21=>
    cases y20 with
    | int y30=>
     cases y21 with
     | nil=>
      exact k y10 y30 h rfl
     | _=>exact nos h
    | _=>exact nos h
   | _=>exact nos h
  | _=>exact nos h
 | _=>exact nos h
theorem m195 {x:List AV} {A:List AV→Option β} (h:(match x with | ((.tup a0)::[])=>A a0 | _=>none)=some r) (k:∀ a0,A a0=some r→x=((.tup a0)::[])→P):P:=by
 cases x with
 | cons y00 y01=>
  cases y00 with
  | tup y10=>
   cases y01 with
   | nil=>
    exact k y10 h rfl
   | _=>exact nos h
  | _=>exact nos h
 | _=>exact nos h
theorem m196 {x:Option (AV × St)} {A:St→Option β} (h:(match x with | some (.non,a0)=>A a0 | _=>none)=some r) (k:∀ a0,A a0=some r→x=some (.non,a0)→P):P:=by
 cases x with
 | some y00=>
  cases y00 with
  | mk y10 y11=>
   cases y10 with
   | non=>
    exact k y11 h rfl
   | _=>exact nos h
 | _=>exact nos h
theorem mite {c:Prop} [Decidable c] {A:Option β} (h:(if c then A else none)=some r) (k:A=some r→c→P):P:=by by_cases e:c;rw [if_pos e] at h;exact k h e;rw [if_neg e] at h;exact nos h
end
theorem m199 {β:Type} {r:β} {P:Prop} {x:Nat} {A:Nat→Option β} (h:(match x with | 0=>none | d+1=>A d)=some r) (k:∀ d,A d=some r→x=d+1→P):P:=by walk_at "mp"
theorem zTs {β:Type} {r:β} {P:Prop} {x:Option (Bool × St)} {A B:St→Option β} (h:(match x with | some (true,s)=>A s | some (false,s)=>B s | none=>none)=some r) (k:∀ s,A s=some r→x=some (true,s)→P) (l:∀ s,B s=some r→x=some (false,s)→P):P:=by
 cases x with
 | none=>exact nos h
 | some q=>
  obtain ⟨b,s⟩:=q
  cases b with
  | true=>exact k s h rfl
  | false=>exact l s h rfl
theorem zIn {β:Type} {r:β} {P:Prop} {x:Option (Option (AV × It))} {A:AV→It→Option β} {B:Option β} (h:(match x with | some (some (v,i))=>A v i | some none=>B | none=>none)=some r) (k:∀ v i,A v i=some r→x=some (some (v,i))→P) (l:B=some r→x=some none→P):P:=by
 cases x with
 | none=>exact nos h
 | some q=>
  cases q with
  | none=>exact l h rfl
  | some q=>exact k q.1 q.2 h rfl
theorem mGl {β:Type} {r:β} {x:Option AV} {A:AV→Option β} {B:Option β} (h:(match (generalizing:=false) x with | some g=>A g | none=>B)=some r) (e:x=none):B=some r:=by rw [e] at h;exact h
theorem mGs {β:Type} {r:β} {x:Option AV} {A:AV→Option β} {B:Option β} {g:AV} (h:(match (generalizing:=false) x with | some g=>A g | none=>B)=some r) (e:x=some g):A g=some r:=by rw [e] at h;exact h
theorem zCl {β:Type} {r:β} {P:Prop} {x:Option Cls} {A:Cls→Option β} {B:Option β} (h:(match x with | some C=>A C | none=>B)=some r) (k:∀ C,A C=some r→x=some C→P) (l:B=some r→x=none→P):P:=by
 cases x with
 | none=>exact l h rfl
 | some C=>exact k C h rfl
theorem zOb {β:Type} {r:β} {P:Prop} {x:Option Bool} {A B:Option β} (h:(match x with | some true=>A | some false=>B | none=>none)=some r) (k:A=some r→x=some true→P) (l:B=some r→x=some false→P):P:=by
 cases x with
 | none=>exact nos h
 | some b=>
  cases b with
  | true=>exact k h rfl
  | false=>exact l h rfl
theorem zEt {β:Type} {r:β} {x:Option Bool} {A B:Option β} (h:(match (generalizing:=false) x with | some true=>A | some false=>B | none=>none)=some r) (q:x=some true):A=some r:=by rw [q] at h;exact h
theorem zEf {β:Type} {r:β} {x:Option Bool} {A B:Option β} (h:(match (generalizing:=false) x with | some true=>A | some false=>B | none=>none)=some r) (q:x=some false):B=some r:=by rw [q] at h;exact h
theorem bt1 {a b:Bool} (h:(a && b)=true):a=true∧b=true:=by cases a <;> cases b <;> first | exact ⟨rfl,rfl⟩ | exact fat h
theorem bt2 {a b c:Bool} (h:(a && b && c)=true):(a=true∧b=true)∧c=true:=⟨bt1 (bt1 h).1,(bt1 h).2⟩
theorem bt3 {a b c d:Bool} (h:(a && b && c && d)=true):((a=true∧b=true)∧c=true)∧d=true:=⟨bt2 (bt1 h).1,(bt1 h).2⟩
theorem bt4 {a b c d e:Bool} (h:(a && b && c && d && e)=true):(((a=true∧b=true)∧c=true)∧d=true)∧e=true:=⟨bt3 (bt1 h).1,(bt1 h).2⟩
theorem zBo {γ:Type} {P:Prop} {x:Bool} {A B r:γ} (h:(match x with | true=>A | false=>B)=r) (k:A=r→x=true→P) (l:B=r→x=false→P):P:=by
 cases x with
 | true=>exact k h rfl
 | false=>exact l h rfl
theorem zIt {γ:Type} {P c:Prop} [Decidable c] {A B r:γ} (h:(if c then A else B)=r) (k:A=r→c→P) (l:B=r→¬c→P):P:=by by_cases e:c;rw [if_pos e] at h;exact k h e;rw [if_neg e] at h;exact l h e
end
section
theorem y0 {n i:Nat} (h:i < n):n - i=n - (i+1)+1:=(Nat.sub_add_cancel (Nat.sub_pos_of_lt h)).symm
theorem y1 {a n k:Nat} (h:k≤n) (h2:a≤n):a - (n - k)=k - (n - a):=by rw [Nat.sub_sub_right _ h,Nat.sub_sub_right _ h2,Nat.add_comm]
theorem y2 (n:Nat):(max 0 (min (-2+(n:Int)) n)).toNat - 0=n - 2:=by
 match n with
 | 0=>rfl
 | 1=>rfl
 | n+2=>
  have e:(-2+((n+2:Nat):Int))=(n:Int):=by
   refine (?_: -2+((n:Int)+2)=_)
   rw [Int.add_comm (n:Int),Int.neg_add_cancel_left]
  rw [e,Int.min_eq_left (Int.ofNat_le.mpr (Nat.le_add_right n 2)),Int.max_eq_right (Int.natCast_nonneg n)];rfl
theorem y3 {k c:Nat} (h:c+1≤k):k=k - c - 1+1+c:=by
 rw [Nat.sub_add_cancel (Nat.le_sub_of_add_le (by rw [Nat.add_comm];exact h)),Nat.sub_add_cancel (Nat.le_of_succ_le h)]
theorem y4 {i f:Nat} (h:i < f+1) (h0:i≠0):i / 2 - 1 < f:=Nat.lt_of_le_of_lt (Nat.sub_le_sub_right (Nat.div_le_self i 2) 1) (Wx (Nat.sub_lt (Nat.pos_of_ne_zero h0) Nat.one_pos) (Nat.le_of_lt_succ h))
theorem y5 {i f:Nat} (h:i < f+1) (h0:i≠0):i / 2 < f:=Wx (Nat.div_lt_self (Nat.pos_of_ne_zero h0) (by decide)) (Nat.le_of_lt_succ h)
theorem y6 {pl q:Nat} (h:pl+1 < q):q - (pl+1)+1≤q+1 - pl:=by rw [←y0 (Nat.lt_of_succ_lt h)];exact Nat.sub_le_sub_right (Nat.le_succ _) _
theorem y7 {pl q:Nat} (h:pl+1 < q):q - (pl+1)+1≤q - pl:=by rw [←y0 (Nat.lt_of_succ_lt h)];exact Nat.le_refl _
end
section
open PySem PySem.W PyProof.Rows
namespace Tr
variable {α:Type}
theorem get_nil (i:Nat):(Tr.nil:Tr α).get i=none:=rfl
theorem beq_eq (a b:Nat):Nat.beq a b=decide (a=b):=by
 cases h:Nat.beq a b with
 | true=>simp [Qy h]
 | false=>simp [Nat.ne_of_beq_eq_false h]
theorem get_node (v:Option α) (l r:Tr α) (i:Nat):(node v l r).get i=if i=0 then v else if i % 2=1 then l.get (i / 2) else r.get (i / 2 - 1):=by
 refine (?_:(match Nat.beq i 0 with | true=>v | false=>match Nat.beq (i % 2) 1 with | true=>l.get (i / 2) | false=>r.get (i / 2 - 1))=_)
 rw [beq_eq,beq_eq]
 by_cases h:i=0
 ·simp [h]
 ·by_cases q:i % 2=1 <;> simp [h,q]
theorem half1 {i j:Nat} (q:i % 2=1) (p:j % 2=1) (e:j≠i):j / 2≠i / 2:=fun z=>e (by rw [←Nat.div_add_mod j 2,←Nat.div_add_mod i 2,z,q,p])
theorem half2 {i:Nat} (h:i≠0) (q:¬i % 2=1):i=2 * (i / 2 - 1+1):=by
 have a:i=2 * (i / 2):=by
  have:=Nat.div_add_mod i 2
  rw [(Nat.mod_two_eq_zero_or_one i).resolve_right q] at this;exact this.symm
 rw [Nat.sub_add_cancel (Nat.pos_of_ne_zero fun y=>h (by rw [a,y]))];exact a
theorem half3 {i j:Nat} (h:i≠0) (q:¬i % 2=1) (h':j≠0) (p:¬j % 2=1) (e:j≠i):j / 2 - 1≠i / 2 - 1:=fun z=>e (by rw [half2 h' p,half2 h q,z])
theorem mTr {γ:Type} {o:Option (Tr α)} {A:Tr α→Option γ} {r:γ} {P:Prop} (h:(match o with | some t=>A t | none=>none)=some r) (k:∀ t,A t=some r→o=some t→P):P:=by
 cases o with
 | none=>exact nos h
 | some t=>exact k t h rfl
theorem put_node {x:α} {f:Nat} (ih:∀ (t:Tr α) (i:Nat) (t':Tr α),put x t i f=some t'→∀ j,t'.get j=if j=i then some x else t.get j) {v:Option α} {l r:Tr α} {i:Nat} {t':Tr α}
  (h:put x (.node v l r) i (f+1)=some t') (j:Nat):t'.get j=if j=i then some x else (node v l r).get j:=by
 refine zBo h (fun h q=> ?_) fun h q=> ?_
 ·have q:=Qy q
  subst q;refine e1 h ?_
  rw [get_node,get_node];by_cases hj:j=0 <;> simp [hj]
 ·have h0:=Nat.ne_of_beq_eq_false q
  refine zBo h (fun h q=>mTr h fun l' h hl=> ?_) fun h q=>mTr h fun l' h hl=> ?_
  ·have q:=Qy q
   refine e1 h ?_
   have:=ih _ _ _ hl
   rw [get_node,get_node]
   by_cases hj:j=0
   ·subst hj;simp [Ne.symm h0]
   ·by_cases qj:j % 2=1
    ·simp only [hj,qj,if_true,if_false,this]
     by_cases e:j=i
     ·simp [e]
     ·simp [e,half1 q qj e]
    ·have e:j≠i:=fun z=>qj (z ▸ q)
     simp [hj,qj,e]
  ·have q:=Nat.ne_of_beq_eq_false q
   refine e1 h ?_
   have:=ih _ _ _ hl
   rw [get_node,get_node]
   by_cases hj:j=0
   ·subst hj;simp [Ne.symm h0]
   ·by_cases qj:j % 2=1
    ·have e:j≠i:=fun z=>q (z ▸ qj)
     simp [hj,qj,e]
    ·simp only [hj,qj,if_false,this]
     by_cases e:j=i
     ·simp [e]
     ·simp [e,half3 h0 q hj qj e]
theorem get_nn (j:Nat):(node none nil nil:Tr α).get j=none:=by rw [get_node,get_nil,get_nil];simp
theorem put_get (x:α):∀ (f:Nat) (t:Tr α) (i:Nat) (t':Tr α),put x t i f=some t'→∀ j,t'.get j=if j=i then some x else t.get j
 | 0,t,_,_,h=>by cases t <;> exact nos h
 | f+1,.nil,i,t',h=>fun j=>by rw [get_nil,←get_nn j];exact put_node (put_get x f) h j
 | f+1,.node v l r,i,t',h=>fun j=>put_node (put_get x f) h j
theorem set_get {t t':Tr α} {i:Nat} {x:α} (h:t.set i x=some t') (j:Nat):t'.get j=if j=i then some x else t.get j:=put_get x (i+1) t i t' h j
end Tr
theorem Zk {β:Type} (n:Nat) (k:Nat→β):plainN n k=k n:=by cases n <;> rfl
theorem Xb {β:Type} (i:Int) (k:Int→β):plainI i k=k i:=by cases i <;> simp [plainI,Zk]
theorem snoc_eq {α:Type} (a:α):∀ l:List α,snoc a l=some (l++ [a])
 | []=>rfl
 | x::r=>by refine (?_:(match snoc a r with | some s=>some (x::s) | none=>none)=_);rw [snoc_eq a r];rfl
theorem app_eq {α:Type}:∀ l r:List α,app l r=some (l++r)
 | [],_=>rfl
 | x::l,r=>by refine (?_:(match app l r with | some s=>some (x::s) | none=>none)=_);rw [app_eq l r];rfl
theorem Yb {α:Type}:∀ (l:List α) (n:Nat),nth l n=l[n]?
 | [],n=>rfl
 | x::r,0=>rfl
 | x::r,n+1=>Yb r n
theorem Zd {α:Type}:∀ l:List α,lenN l=l.length
 | []=>rfl
 | _::r=>congrArg Nat.succ (Zd r)
theorem Vq {α:Type}:∀ (l:List α) (n:Nat),dropN l n=l.drop n
 | l,0=>by cases l <;> rfl
 | [],n+1=>rfl
 | _::r,n+1=>Vq r n
theorem takeN_eq {α:Type}:∀ (l:List α) (n:Nat),takeN l n=some (l.take n)
 | l,0=>by cases l <;> rfl
 | [],n+1=>rfl
 | x::r,n+1=>by refine (?_:(match takeN r n with | some s=>some (x::s) | none=>none)=_);rw [takeN_eq r n];rfl
theorem setNth_eq {α:Type} (v:α):∀ (l:List α) (n:Nat) (l':List α),setNth v l n=some l'→n < l.length∧l'=l.set n v
 | [],n,l',h=>by exact nos h
 | x::r,0,l',h=>by refine e1 h ?_;exact ⟨Nat.succ_pos _,rfl⟩
 | x::r,n+1,l',h=>by
  walk_at "m m106 h r' h hr"
  refine e1 h ?_
  refine oA (setNth_eq v r n r' hr) fun h1 h2=> ?_
  simp [h1,h2]
theorem dropLast_eq {α:Type}:∀ (l r:List α) (x:α),dropLast l=some (r,x)→l=r++ [x]
 | [],_,_,h=>by exact nos h
 | [a],r,x,h=>by (refine oA (i2 h) fun q0z q1z=> ?_;subst q0z q1z);rfl
 | a::b::t,r,x,h=>by
  walk_at "m m178 h r' y h hr"
  cases h
  rw [dropLast_eq (b::t) r' x hr];rfl
structure Gl where
 prog:Program
 w:World
 B:Heap
 K:Frag
 P:Pr
 nm:Nat→Str
 nmInj:∀ i j,nm i=nm j→i=j
 gad:Nat→Option Value
 rho:Nat→Value→Prop
 actp:Nat→Nat→Nat→Nat→Value→Prop
 clop:Nat→List Value→List (Addr × Obj)→Addr→Prop
 cloMono:∀ k vs p p' a,clop k vs p a→(∀ x∈p,x∈p')→clop k vs p' a
 gens:Array GenState
 drawn:Drawn
 os:OsState
 mA:Addr
 bA:Addr
 okA:Nat→Bool
 tabA:Nat→Addr
 tabOk:Nat→Nat→Obj→Prop
structure Wd where
 σ:List Addr
 pin:List (Addr × Obj)
structure Wd.le (W W':Wd):Prop where
 σ:∀ (n:Nat) (a:Addr),W.σ[n]? =some a→W'.σ[n]? =some a
 pin:∀ p∈W.pin,p∈W'.pin
theorem Wd.le.refl (W:Wd):W.le W:=⟨fun uu uu e=>e,fun uu e=>e⟩
theorem Wd.le.trans {W W' W'':Wd} (h:W.le W') (k:W'.le W''):W.le W'':=⟨fun n a e=>k.σ n a (h.σ n a e),fun p e=>k.pin p (h.pin p e)⟩
noncomputable def mkS (s:List Nat):Str:=⟨s.toArray⟩
theorem mkS_inj {s t:List Nat} (h:mkS s=mkS t):s=t:=by
 have:=congrArg Str.cps h
 simpa [mkS] using this
mutual
inductive VRel (G:Gl) (W:Wd):AV→Value→Prop
 | non:VRel G W .non .none
 | boo (b:Bool):VRel G W (.boo b) (.bool b)
 | int (i:Int) (t:Tok):VRel G W (.int i) (.int i t)
 | str (s:List Nat) (t:Tok):VRel G W (.str s) (.str (mkS s) t)
 | tup {xs:List AV} {a:Addr} {vs:List Value} {n:Nat} {o:Obj} (hp:(a,o)∈W.pin) (hc:o.cls= .type "tuple") (hd:o.data= .seq vs.toArray n) (h:VRels G W xs vs):VRel G W (.tup xs) (.ref a)
 | ref {n:Nat} {a:Addr} (h:W.σ[n]? =some a):VRel G W (.ref n) (.ref a)
 | glo {k:Nat} {v:Value} (h:G.gad k=some v):VRel G W (.glo k) v
 | sym {k:Nat} {v:Value} (h:G.rho k v):VRel G W (.sym k) v
 | act {x y p j:Nat} {v:Value} (h:G.actp x y p j v):VRel G W (.act x y p j) v
 | clo {k:Nat} {fv:List AV} {vs:List Value} {a:Addr} (h:VRels G W fv vs) (hc:G.clop k vs W.pin a):VRel G W (.clo k fv) (.ref a)
 | aint (i:Int) (t:Tok):VRel G W .aint (.int i t)
 | junk (v:Value):VRel G W .junk v
inductive VRels (G:Gl) (W:Wd):List AV→List Value→Prop
 | nil:VRels G W [] []
 | cons {x:AV} {v:Value} {xs:List AV} {vs:List Value} (h:VRel G W x v) (r:VRels G W xs vs):VRels G W (x::xs) (v::vs)
end
section
variable {G:Gl} {W W':Wd}
theorem VRel.mono (k:W.le W') {x:AV} {v:Value} (h:VRel G W x v):VRel G W' x v:=
 VRel.rec (motive_1:=fun x v uu=>VRel G W' x v) (motive_2:=fun xs vs uu=>VRels G W' xs vs) .non .boo .int .str (fun hp hc hd uu i=> .tup (k.pin _ hp) hc hd i) (fun h=> .ref (k.σ _ _ h)) .glo .sym .act (fun uu hc i=> .clo i (G.cloMono _ _ _ _ _ hc k.pin)) .aint .junk .nil (fun uu uu a b=> .cons a b) h
theorem VRels.mono (k:W.le W') {xs:List AV} {vs:List Value} (h:VRels G W xs vs):VRels G W' xs vs:=
 VRels.rec (motive_1:=fun x v uu=>VRel G W' x v) (motive_2:=fun xs vs uu=>VRels G W' xs vs) .non .boo .int .str (fun hp hc hd uu i=> .tup (k.pin _ hp) hc hd i) (fun h=> .ref (k.σ _ _ h)) .glo .sym .act (fun uu hc i=> .clo i (G.cloMono _ _ _ _ _ hc k.pin)) .aint .junk .nil (fun uu uu a b=> .cons a b) h
@[elab_as_elim] theorem vNon {m:Value→Prop} {v:Value} (h:VRel G W .non v) (k:m .none):m v:=by cases h;exact k
@[elab_as_elim] theorem vBoo {m:Value→Prop} {b:Bool} {v:Value} (h:VRel G W (.boo b) v) (k:m (.bool b)):m v:=by cases h;exact k
@[elab_as_elim] theorem vInt {m:Value→Prop} {i:Int} {v:Value} (h:VRel G W (.int i) v) (k:∀ t,m (.int i t)):m v:=by cases h;exact k _
@[elab_as_elim] theorem vStr {m:Value→Prop} {s:List Nat} {v:Value} (h:VRel G W (.str s) v) (k:∀ t,m (.str (mkS s) t)):m v:=by cases h;exact k _
@[elab_as_elim] theorem vAin {m:Value→Prop} {v:Value} (h:VRel G W .aint v) (k:∀ i t,m (.int i t)):m v:=by cases h;exact k _ _
@[elab_as_elim] theorem vsN {m:List Value→Prop} {v:List Value} (h:VRels G W [] v) (k:m []):m v:=by cases h;exact k
@[elab_as_elim] theorem vRef {m:Value→Prop} {n:Nat} {v:Value} (h:VRel G W (.ref n) v) (k:∀ a,W.σ[n]? =some a→m (.ref a)):m v:=by cases h;exact k _ (by assumption)
@[elab_as_elim] theorem vsC {m:List Value→Prop} {x:AV} {xs:List AV} {v:List Value} (h:VRels G W (x::xs) v) (k:∀ u us,VRel G W x u→VRels G W xs us→m (u::us)):m v:=by cases h;exact k _ _ (by assumption) (by assumption)
@[elab_as_elim] theorem vTup {m:Value→Prop} {xs:List AV} {v:Value} (h:VRel G W (.tup xs) v) (k:∀ a vs n o,(a,o)∈W.pin→o.cls= .type "tuple" →o.data= .seq (List.toArray vs) n→VRels G W xs vs→m (.ref a)):m v:=by cases h;exact k _ _ _ _ (by assumption) (by assumption) (by assumption) (by assumption)
theorem vRf {n:Nat} {a:Addr} (h:VRel G W (.ref n) (.ref a)):W.σ[n]? =some a:=by cases h;assumption
theorem vGlo {k:Nat} {v:Value} (h:VRel G W (.glo k) v):G.gad k=some v:=by cases h;assumption
theorem vSym {k:Nat} {v:Value} (h:VRel G W (.sym k) v):G.rho k v:=by cases h;assumption
theorem iNon {v:Value} (h:VRel G W .non v):v= .none:=by refine vNon h ?_;rfl
theorem isN {v:List Value} (h:VRels G W [] v):v=[]:=by refine vsN h ?_;rfl
theorem VRels.length {xs:List AV} {vs:List Value} (h:VRels G W xs vs):xs.length=vs.length:=by
 induction xs generalizing vs with
 | nil=>refine vsN h ?_;rfl
 | cons x xs ih=>cases h with | cons a b=>simp [ih b]
theorem VRels.append {xs ys:List AV} {vs us:List Value} (h:VRels G W xs vs) (k:VRels G W ys us):VRels G W (xs++ys) (vs++us):=by
 induction xs generalizing vs with
 | nil=>refine vsN h ?_;exact k
 | cons x xs ih=>cases h with | cons a b=>exact .cons a (ih b)
theorem VRels.snoc {xs:List AV} {vs:List Value} {x:AV} {v:Value} (h:VRels G W xs vs) (k:VRel G W x v):VRels G W (xs++ [x]) (vs++ [v]):=h.append (.cons k .nil)
theorem VRels.get {xs:List AV} {vs:List Value} (h:VRels G W xs vs) {n:Nat} {x:AV} (e:xs[n]? =some x):∃ v,vs[n]? =some v∧VRel G W x v:=by
 induction xs generalizing vs n with
 | nil=>exact nos e
 | cons y xs ih=>
  cases h with
  | cons a b=>
   cases n with
   | zero=>simp at e;subst e;exact ⟨_,rfl,a⟩
   | succ n=>simp at e;simpa using ih b e
theorem VRels.drop {xs:List AV} {vs:List Value} (h:VRels G W xs vs) (n:Nat):VRels G W (xs.drop n) (vs.drop n):=by
 induction n generalizing xs vs with
 | zero=>simpa using h
 | succ n ih=>cases h with
  | nil=>simpa using VRels.nil
  | cons a b=>simpa using ih b
theorem VRels.take {xs:List AV} {vs:List Value} (h:VRels G W xs vs) (n:Nat):VRels G W (xs.take n) (vs.take n):=by
 induction n generalizing xs vs with
 | zero=>simpa using VRels.nil
 | succ n ih=>cases h with
  | nil=>simpa using VRels.nil
  | cons a b=>simpa using VRels.cons a (ih b)
theorem VRels.set {xs:List AV} {vs:List Value} (h:VRels G W xs vs) (n:Nat) {x:AV} {v:Value} (k:VRel G W x v):VRels G W (xs.set n x) (vs.set n v):=by
 induction n generalizing xs vs with
 | zero=>cases h with
  | nil=>simpa using VRels.nil
  | cons a b=>simpa using VRels.cons k b
 | succ n ih=>cases h with
  | nil=>simpa using VRels.nil
  | cons a b=>simpa using VRels.cons a (ih b)
end
noncomputable def hashOf (w:World):Nat→AV→Int
 | 0,_=>0
 | f+1,x=>match x with
  | .int i=>hashInt i
  | .str s=>hashStr w (mkS s)
  | .tup xs=>reduceHash (Builtin.Tuple.tupleHashOf (xs.map (hashOf w f)))
  | _=>0
noncomputable def hashK (w:World) (x:AV):Int:=hashOf w 6 x
inductive Attrs (G:Gl) (W:Wd):List (Nat × AV)→List DictEntry→Prop
 | nil:Attrs G W [] []
 | cons {k:Nat} {x:AV} {es:List (Nat × AV)} {h:Int} {t:Tok} {v:Value} {ds:List DictEntry} (hv:VRel G W x v) (r:Attrs G W es ds):Attrs G W ((k,x)::es) (⟨h,.str (G.nm k) t,v⟩::ds)
inductive Ents (G:Gl) (W:Wd):List (AV × AV)→List DictEntry→Prop
 | nil:Ents G W [] []
 | cons {k x:AV} {es:List (AV × AV)} {kv v:Value} {ds:List DictEntry} (hk:VRel G W k kv) (hv:VRel G W x v) (r:Ents G W es ds):Ents G W ((k,x)::es) (⟨hashK G.w k,kv,v⟩::ds)
theorem Attrs.mono {G:Gl} {W W':Wd} (k:W.le W') {es:List (Nat × AV)} {ds:List DictEntry} (h:Attrs G W es ds):Attrs G W' es ds:=by
 induction h with
 | nil=>exact .nil
 | cons hv _ ih=>exact .cons (hv.mono k) ih
theorem Ents.mono {G:Gl} {W W':Wd} (k:W.le W') {es:List (AV × AV)} {ds:List DictEntry} (h:Ents G W es ds):Ents G W' es ds:=by
 induction h with
 | nil=>exact .nil
 | cons hk hv _ ih=>exact .cons (hk.mono k) (hv.mono k) ih
noncomputable def OObj (G:Gl) (W:Wd):AO→Obj→Prop
 | .inst c d,o=>∃ C ad,G.gad c=some (.ref C)∧W.σ[d]? =some ad∧o=instObj C ad
 | .attrs es,o=>∃ ds n,o=dictOf ds n∧Attrs G W es ds∧(es.map (·.1)).Nodup∧∀ e∈es,G.okA e.1=true
 | .list xs,o=>∃ vs n,o={ cls:= .type "list",data:= .seq vs.toArray n }∧VRels G W xs vs
 | .dict es ep,o=>∃ ds,o=dictOf ds ep∧Ents G W es ds∧(∀ e∈es,isKey e.1=true)∧(es.map (·.1)).Nodup
 | .set xs,o=>∃ ss:List (List Nat),xs=ss.map AV.str∧o.SetObjOf (strKind G.prog G.w) (fun k=>decide (k∈ss.map mkS)) ss.length∧ss.length≤2
 | .tab k n,o=>W.σ[k]? =some (G.tabA k)∧G.tabOk k n o
theorem OObj.mono {G:Gl} {W W':Wd} (k:W.le W') {x:AO} {o:Obj} (h:OObj G W x o):OObj G W' x o:=by
 cases x with
 | inst c d=>refine oEEAA h fun C ad h1 h2 h3=> ?_;exact ⟨C,ad,h1,k.σ _ _ h2,h3⟩
 | attrs es=>refine oEEAA h fun ds n h1 h2 h3=> ?_;exact ⟨ds,n,h1,h2.mono k,h3⟩
 | list xs=>refine oEEA h fun vs n h1 h2=> ?_;exact ⟨vs,n,h1,h2.mono k⟩
 | dict es ep=>refine oEAA h fun ds h1 h2 h3=> ?_;exact ⟨ds,h1,h2.mono k,h3⟩
 | set xs=>exact h
 | tab j n=>exact ⟨k.σ _ _ h.1,h.2⟩
structure Cx where
 A:Around
 env:Env
 ln:List String
 keeps:List (Addr × Obj)
 cell:Nat→Option Addr
 root:List Stmt
noncomputable def Cx.Has (C:Cx) (p:List (Addr × Obj)) (m:Str→Option Value) (x:Nat) (nm:String) (cv:Value):Prop:=match C.cell x with
 | none=>m (Str.ofString nm)=some cv
 | some c=>∃ o,(c,o)∈p∧o.data= .cell (some cv)
theorem Cx.Has.mono {C:Cx} {p p':List (Addr × Obj)} {m:Str→Option Value} {x:Nat} {nm:String} {cv:Value} (h:C.Has p m x nm cv) (k:∀ q∈p,q∈p'):C.Has p' m x nm cv:=by
 unfold Cx.Has at h ⊢
 split at h
 ·exact h
 ·refine oEA h fun o h1 h2=> ?_;exact ⟨o,k _ h1,h2⟩
noncomputable abbrev Cx.L (C:Cx):Addr:=C.env.locals
noncomputable def Held (h:Heap) (p:Addr × Obj):Prop:=h.get? p.1=some p.2∨∃ es n sl,p.2.data= .dict es n∧h.get? p.1=some { p.2 with slots:=sl }
theorem Held.map {h h':Heap} {p:Addr × Obj} (x:Held h p) (k:∀ o,h.get? p.1=some o→h'.get? p.1=some o):Held h' p:=by
 rcases x with x | ⟨es,n,sl,hd,x⟩
 ·exact .inl (k _ x)
 ·exact .inr ⟨es,n,sl,hd,k _ x⟩
theorem Held.there {h:Heap} {p:Addr × Obj} (x:Held h p):∃ o,h.get? p.1=some o∧o.data=p.2.data:=by
 rcases x with x | ⟨es,n,sl,hd,x⟩ <;> exact ⟨_,x,rfl⟩
theorem Held.exact {h:Heap} {p:Addr × Obj} (x:Held h p) (hn:∀ es n,p.2.data≠ .dict es n):h.get? p.1=some p.2:=by
 rcases x with x | ⟨es,n,sl,hd,x⟩
 ·exact x
 ·exact absurd hd (hn es n)
structure Inv (G:Gl) (C:Cx) (W:Wd) (l:Tr AV) (s:St) (S:Shared):Prop where
 base:∀ b o,G.B.get? b=some o→S.heap.get? b=some o
 pin:∀ p∈W.pin,S.heap.get? p.1=some p.2∧p.1 ∉ W.σ∧p.1≠C.L
 keep:∀ p∈C.keeps,Held S.heap p∧p.1 ∉ W.σ∧p.1≠C.L
 pk:∀ p∈W.pin,∀ q∈C.keeps,p.1≠q.1
 kb:∀ q∈C.keeps,G.B.get? q.1=none
 kn:(C.keeps.map (·.1)).Nodup
 objs:∀ n o,s.h.get n=some o→∃ a co,W.σ[n]? =some a∧S.heap.get? a=some co∧OObj G W o co
 len:W.σ.length=s.nx
 nodup:W.σ.Nodup
 fresh:∀ a∈W.σ,G.B.get? a=none∧a≠C.L∧∃ o,S.heap.get? a=some o
 loc:∃ m,S.heap.Ns C.L m∧∀ x v,l.get x=some v→∃ nm cv,C.ln[x]? =some nm∧C.Has W.pin m x nm cv∧VRel G W v cv
 locB:G.B.get? C.L=none
 gens:S.gens=G.gens
 drawn:S.drawn=G.drawn
 os:S.os=G.os
section
variable {G:Gl} {C:Cx} {W:Wd} {l:Tr AV} {s:St} {S:Shared}
theorem Inv.grow (I:Inv G C W l s S) {h':Heap} {tk:Nat} (k:∀ b o,S.heap.get? b=some o→h'.get? b=some o):Inv G C W l s { S with heap:=h',toks:=tk }:=by
 refine oEA (I.loc) fun m hn hl=> ?_
 refine ⟨fun b o e=>k b o (I.base b o e),fun p hp=>⟨k _ _ (I.pin p hp).1,(I.pin p hp).2⟩,fun p hp=>⟨(I.keep p hp).1.map (k _),(I.keep p hp).2⟩,I.pk,I.kb,I.kn,fun n o e=> ?_,I.len,I.nodup,fun a ha=> ?_,⟨m,?_,hl⟩,I.locB,I.gens,I.drawn,I.os⟩
 ·refine oEEAA (I.objs n o e) fun a co h1 h2 h3=> ?_;exact ⟨a,co,h1,k _ _ h2,h3⟩
 ·refine oAAE (I.fresh a ha) fun h1 h2 o h3=> ?_;exact ⟨h1,h2,o,k _ _ h3⟩
 ·refine oEEEA hn fun o es ep h1 h2=> ?_;exact ⟨o,es,ep,k _ _ h1,h2⟩
theorem Inv.toks (I:Inv G C W l s S) {tk:Nat}:Inv G C W l s { S with toks:=tk }:=I.grow (h':=S.heap) fun uu uu e=>e
theorem Inv.at (I:Inv G C W l s S) {n:Nat} {o:AO} (e:s.h.get n=some o) {a:Addr} (ha:W.σ[n]? =some a):∃ co,S.heap.get? a=some co∧OObj G W o co:=by
 refine oEEAA (I.objs n o e) fun a' co h1 h2 h3=> ?_
 rw [ha] at h1;(obtain rfl:=Qz h1);exact ⟨co,h2,h3⟩
theorem Inv.upd (I:Inv G C W l s S) {n:Nat} {a:Addr} {o':AO} {co':Obj} {s':St} {h':Heap} {tk:Nat} (ha:W.σ[n]? =some a) (hs:s.upd n o'=some s') (k:∀ b o,b≠a→S.heap.get? b=some o→h'.get? b=some o)
  (hg:h'.get? a=some co') (ho:OObj G W o' co'):Inv G C W l s' { S with heap:=h',toks:=tk }:=by
 have hm:a∈W.σ:=Qx ha
 refine oAA (I.fresh a hm) fun f1 f2 uu=> ?_
 walk_at "m m48 hs h₁ hs e₁"
 refine e1 hs ?_
 refine oEA (I.loc) fun m hn hl=> ?_
 refine ⟨fun b o e=>k b o (fun q=>by rw [q,f1] at e;exact nos e) (I.base b o e),fun p hp=>⟨k _ _ (fun q=>(I.pin p hp).2.1 (q ▸ hm)) (I.pin p hp).1,(I.pin p hp).2⟩,fun p hp=>⟨(I.keep p hp).1.map fun o e=>k _ o (fun q=>(I.keep p hp).2.1 (q ▸ hm)) e,(I.keep p hp).2⟩,I.pk,I.kb,I.kn,
  fun j o e=> ?_,I.len,I.nodup,fun b hb=> ?_,⟨m,?_,hl⟩,I.locB,I.gens,I.drawn,I.os⟩
 ·rw [Tr.set_get e₁] at e
  by_cases hj:j=n
  ·subst hj;rw [if_pos rfl] at e;refine e1 e ?_;exact ⟨a,co',ha,hg,ho⟩
  ·rw [if_neg hj] at e
   refine oEEAA (I.objs j o e) fun b co h1 h2 h3=> ?_
   refine ⟨b,co,h1,k b co (fun q=> ?_) h2,h3⟩
   subst q
   exact hj ((List.getElem?_inj (Wn h1).1 I.nodup).mp (h1.trans ha.symm))
 ·refine oAAE (I.fresh b hb) fun h1 h2 o h3=> ?_
  by_cases q:b=a
  ·subst q;exact ⟨h1,h2,co',hg⟩
  ·exact ⟨h1,h2,o,k b o q h3⟩
 ·refine oEEEA hn fun o es ep h1 h2=> ?_;exact ⟨o,es,ep,k _ _ (Ne.symm f2) h1,h2⟩
theorem getElem?_snoc {α:Type} {l:List α} {x:α} {n:Nat} {a:α} (h:l[n]? =some a):(l++ [x])[n]? =some a:=by
 have:=(Wn h).1
 rw [List.getElem?_append_left this];exact h
theorem Wd.le_obj (W:Wd) (a:Addr):W.le ⟨W.σ++ [a],W.pin⟩:=⟨fun uu uu e=>getElem?_snoc e,fun uu e=>e⟩
theorem Wd.le_pin (W:Wd) (p:Addr × Obj):W.le ⟨W.σ,p::W.pin⟩:=⟨fun uu uu e=>e,fun uu e=> .tail _ e⟩
theorem Inv.apart (I:Inv G C W l s S) {a:Addr} (hn:S.heap.get? a=none):G.B.get? a=none∧a ∉ W.σ∧a≠C.L∧(∀ p∈W.pin,p.1≠a)∧∀ p∈C.keeps,p.1≠a:=by
 refine ⟨?_,fun hm=> ?_,fun q=> ?_,fun p hp q=> ?_,fun p hp q=> ?_⟩
 ·cases q:G.B.get? a with
  | none=>rfl
  | some o=>rw [I.base a o q] at hn;exact son hn
 ·refine oAAE (I.fresh a hm) fun uu uu o h=> ?_;rw [h] at hn;exact son hn
 ·obtain ⟨m,⟨o,es,ep,h,_⟩,_⟩:=I.loc;rw [q,h] at hn;exact son hn
 ·rw [←q,(I.pin p hp).1] at hn;exact son hn
 ·refine oEA ((I.keep p hp).1.there) fun o h1 uu=> ?_;rw [←q,h1] at hn;exact son hn
theorem Inv.new (I:Inv G C W l s S) {o:AO} {a:Addr} {co:Obj} {v:AV} {s':St} {h':Heap} {tk:Nat} (hs:s.new o=some (v,s')) (hn:S.heap.get? a=none) (k:∀ b o,S.heap.get? b=some o→h'.get? b=some o)
  (hg:h'.get? a=some co) (ho:OObj G ⟨W.σ++ [a],W.pin⟩ o co):v= .ref s.nx∧Inv G C ⟨W.σ++ [a],W.pin⟩ l s' { S with heap:=h',toks:=tk }∧VRel G ⟨W.σ++ [a],W.pin⟩ v (.ref a):=by
 refine oAAAA (I.apart hn) fun p1 p2 p3 p4 p5=> ?_
 walk_at "m m48 hs h₁ hs e₁"
 rw [Zk] at hs
 refine e2 hs ?_
 refine oEA (I.loc) fun m hns hl=> ?_
 have le:=W.le_obj a
 have at_:(W.σ++ [a])[s.nx]? =some a:=by rw [←I.len];simp
 refine ⟨rfl,⟨fun b o e=>k b o (I.base b o e),fun p hp=>⟨k _ _ (I.pin p hp).1,?_,(I.pin p hp).2.2⟩,fun p hp=>⟨(I.keep p hp).1.map (k _),?_,(I.keep p hp).2.2⟩,I.pk,I.kb,I.kn,
  fun j o e=> ?_,by simp [I.len],?_,fun b hb=> ?_,⟨m,?_,?_⟩,I.locB,I.gens,I.drawn,I.os⟩,.ref at_⟩
 ·intro hm
  rcases Zx hm with q | q
  ·exact (I.pin p hp).2.1 q
  ·exact p4 p hp (Zw q)
 ·intro hm
  rcases Zx hm with q | q
  ·exact (I.keep p hp).2.1 q
  ·exact p5 p hp (Zw q)
 ·rw [Tr.set_get e₁] at e
  by_cases hj:j=s.nx
  ·subst hj;rw [if_pos rfl] at e;refine e1 e ?_;exact ⟨a,co,at_,hg,ho⟩
  ·rw [if_neg hj] at e
   refine oEEAA (I.objs j o e) fun b co h1 h2 h3=> ?_
   exact ⟨b,co,le.σ _ _ h1,k _ _ h2,h3.mono le⟩
 ·rw [List.nodup_append]
  refine ⟨I.nodup,by simp,?_⟩
  intro x hx y hy e
  rw [Zw hy] at e
  exact p2 (e ▸ hx)
 ·rcases Zx hb with q | q
  ·refine oAAE (I.fresh b q) fun h1 h2 o h3=> ?_;exact ⟨h1,h2,o,k _ _ h3⟩
  ·rw [Zw q];exact ⟨p1,p3,co,hg⟩
 ·refine oEEEA hns fun o es ep h1 h2=> ?_;exact ⟨o,es,ep,k _ _ h1,h2⟩
 ·intro x v e
  refine oEEAA (hl x v e) fun nm cv h1 h2 h3=> ?_
  exact ⟨nm,cv,h1,h2.mono le.pin,h3.mono le⟩
theorem Inv.pinned (I:Inv G C W l s S) {a:Addr} {o:Obj} (hg:S.heap.get? a=some o) (h1:a ∉ W.σ) (h2:a≠C.L) (hk:∀ q∈C.keeps,q.1≠a):Inv G C ⟨W.σ,(a,o)::W.pin⟩ l s S:=by
 have le:=W.le_pin (a,o)
 refine oEA (I.loc) fun m hns hl=> ?_
 refine ⟨I.base,fun p hp=> ?_,I.keep,fun p hp q hq=> ?_,I.kb,I.kn,fun j o e=> ?_,I.len,I.nodup,I.fresh,⟨m,hns,fun x v e=> ?_⟩,I.locB,I.gens,I.drawn,I.os⟩
 ·rcases Zq hp with rfl | hp
  ·exact ⟨hg,h1,h2⟩
  ·exact I.pin p hp
 ·rcases Zq hp with rfl | hp
  ·exact fun e=>hk q hq e.symm
  ·exact I.pk p hp q hq
 ·refine oEEAA (I.objs j o e) fun b co h1 h2 h3=> ?_;exact ⟨b,co,h1,h2,h3.mono le⟩
 ·refine oEEAA (hl x v e) fun nm cv h1 h2 h3=> ?_;exact ⟨nm,cv,h1,h2.mono le.pin,h3.mono le⟩
theorem Inv.newPin (I:Inv G C W l s S) {a:Addr} {co:Obj} {h':Heap} {tk:Nat} (hn:S.heap.get? a=none) (k:∀ b o,S.heap.get? b=some o→h'.get? b=some o) (hg:h'.get? a=some co):
  Inv G C ⟨W.σ,(a,co)::W.pin⟩ l s { S with heap:=h',toks:=tk }:=by
 refine oAAAA (I.apart hn) fun p1 p2 p3 uu p5=> ?_
 exact (I.grow k).pinned hg p2 p3 p5
theorem Inv.bind (I:Inv G C W l s S) {x:Nat} {v:AV} {cv:Value} {nm:String} {l':Tr AV} {h':Heap} {tk:Nat} (hl:l.set x v=some l') (hx:C.ln[x]? =some nm) (hc:C.cell x=none) (hnd:(C.ln.map Str.ofString).Nodup) (hv:VRel G W v cv)
  {m:Str→Option Value} (hm:∀ x v,l.get x=some v→∃ nm cv,C.ln[x]? =some nm∧C.Has W.pin m x nm cv∧VRel G W v cv)
  (hn:h'.Ns C.L (fun y=>if y=Str.ofString nm then some cv else m y)) (hs:Heap.SameBut C.L S.heap h'):Inv G C W l' s { S with heap:=h',toks:=tk }:=by
 have k:∀ b o,b≠C.L→S.heap.get? b=some o→h'.get? b=some o:=fun b o q e=>(hs.2 b q).trans e
 refine ⟨fun b o e=>k b o (fun q=>by rw [q,I.locB] at e;exact nos e) (I.base b o e),fun p hp=>⟨k _ _ (I.pin p hp).2.2 (I.pin p hp).1,(I.pin p hp).2⟩,fun p hp=>⟨(I.keep p hp).1.map fun o e=>k _ o (I.keep p hp).2.2 e,(I.keep p hp).2⟩,I.pk,I.kb,I.kn,
  fun j o e=> ?_,I.len,I.nodup,fun b hb=> ?_,⟨_,hn,fun y w e=> ?_⟩,I.locB,I.gens,I.drawn,I.os⟩
 ·refine oEEAA (I.objs j o e) fun b co h1 h2 h3=> ?_
  exact ⟨b,co,h1,k _ _ (I.fresh b (Qx h1)).2.1 h2,h3⟩
 ·refine oAAE (I.fresh b hb) fun h1 h2 o h3=> ?_;exact ⟨h1,h2,o,k _ _ h2 h3⟩
 ·rw [Tr.set_get hl] at e
  by_cases hy:y=x
  ·subst hy;rw [if_pos rfl] at e;refine e1 e ?_
   exact ⟨nm,cv,hx,by simp [Cx.Has,hc],hv⟩
  ·rw [if_neg hy] at e
   refine oEEAA (hm y w e) fun nm' cv' h1 h2 h3=> ?_
   refine ⟨nm',cv',h1,?_,h3⟩
   have:Str.ofString nm'≠Str.ofString nm:=by
    intro q
    have a1:(C.ln.map Str.ofString)[y]? =some (Str.ofString nm'):=by rw [List.getElem?_map,h1];rfl
    have a2:(C.ln.map Str.ofString)[x]? =some (Str.ofString nm):=by rw [List.getElem?_map,hx];rfl
    exact hy ((List.getElem?_inj (Wn a1).1 hnd).mp (a1.trans (q ▸ a2.symm)))
   unfold Cx.Has at h2 ⊢
   split at h2
   ·simp [this,h2]
   ·exact h2
end
noncomputable def epP {α:Type} (n:Nonempty α) (P:α→Prop):α:= @Classical.epsilon α n fun x=>¬P x
theorem epP_all {α:Type} {n:Nonempty α} {P:α→Prop} (h:P (epP n P)) (x:α):P x:=Classical.byContradiction fun hx=>(@Classical.epsilon_spec α (fun x=>¬P x) ⟨x,hx⟩) h
theorem neP {A B:Type} (a:Nonempty A) (b:Nonempty B):Nonempty (A × B):=a.elim fun x=>b.elim fun y=>⟨(x,y)⟩
theorem neW:Nonempty World:=⟨aWorld 1⟩
theorem neTr {α:Type}:Nonempty (Tr α):=⟨.nil⟩
theorem neSt:Nonempty St:=⟨⟨.nil,0⟩⟩
theorem neLo:Nonempty Lo:=⟨⟨0,.nil⟩⟩
theorem neAV:Nonempty AV:=⟨.non⟩
theorem neAO:Nonempty AO:=⟨.list []⟩
theorem neCE:Nonempty CE:=⟨.loc 0 default⟩
theorem neCS:Nonempty CS:=⟨.brk default⟩
theorem neTgt:Nonempty Tgt:=⟨.one 0 default⟩
theorem neWd:Nonempty Wd:=⟨⟨[],[]⟩⟩
theorem neFun:Nonempty Fun:=⟨⟨0,[],[]⟩⟩
theorem neCls:Nonempty Cls:=⟨⟨[],[],0,none⟩⟩
theorem neFl:Nonempty Fl:=⟨.next⟩
theorem neIt:Nonempty It:=⟨.list 0 0⟩
theorem neEv:Nonempty Ev:=⟨⟨fun uu uu uu=>none,fun uu uu uu=>none,fun uu uu uu=>none⟩⟩
theorem nePr:Nonempty Pr:=⟨⟨fun uu=>[],fun uu=>none,fun uu=>none,fun uu=>none,fun uu uu uu=>none,fun uu uu uu=>none,fun uu=>none⟩⟩
theorem neNms:Nonempty Nms:=⟨⟨0,0,0,0,0,0,0,0,0,0,0,0,0,0,0,0,0,0,0,0,0⟩⟩
theorem neSh:Nonempty Shared:=⟨⟨default,#[],{},0,default⟩⟩
theorem neAr:Nonempty Around:=⟨{}⟩
theorem neCx:Nonempty Cx:=⟨⟨{},default,[],[],fun uu=>none,[]⟩⟩
theorem neGl:Nonempty Gl:=neW.elim fun w=>⟨{ prog:=default,w:=w,B:=default,K:=[],P:=⟨fun uu=>[],fun uu=>none,fun uu=>none,fun uu=>none,fun uu uu uu=>none,fun uu uu uu=>none,fun uu=>none⟩,nm:=fun n=>⟨#[n]⟩,nmInj:=fun i j h=>by simpa using h,gad:=fun uu=>none,rho:=fun uu uu=>False,actp:=fun uu uu uu uu uu=>False,clop:=fun uu uu uu uu=>False,cloMono:=fun uu uu uu uu uu h uu=>h,gens:= #[],drawn:={},os:=default,mA:=0,bA:=0,okA:=fun uu=>false,tabA:=fun uu=>0,tabOk:=fun uu uu uu=>False }⟩
theorem neA {α:Type} [Inhabited α]:Nonempty α:=⟨default⟩
noncomputable def x11 {A1:Type} (n:Nonempty (A1)) (R:A1→Prop):A1:=(epP n fun t=>R t)
theorem ep1 {A1:Type} {R:A1→Prop} (n:Nonempty (A1):=by walk_at "am_ne") (h:R (x11 n R)):∀ a1,R a1:=fun a1=>epP_all (n:=n) (P:=fun t=>R t) h (a1)
noncomputable def x21 {A1 A2:Type} (n:Nonempty (A1 × A2)) (R:A1→A2→Prop):A1:=(epP n fun t=>R t.1 t.2).1
noncomputable def x22 {A1 A2:Type} (n:Nonempty (A1 × A2)) (R:A1→A2→Prop):A2:=(epP n fun t=>R t.1 t.2).2
theorem ep2 {A1 A2:Type} {R:A1→A2→Prop} (n:Nonempty (A1 × A2):=by walk_at "am_ne") (h:R (x21 n R) (x22 n R)):∀ a1 a2,R a1 a2:=fun a1 a2=>epP_all (n:=n) (P:=fun t=>R t.1 t.2) h (a1,a2)
noncomputable def x31 {A1 A2 A3:Type} (n:Nonempty (A1 × A2 × A3)) (R:A1→A2→A3→Prop):A1:=(epP n fun t=>R t.1 t.2.1 t.2.2).1
noncomputable def x32 {A1 A2 A3:Type} (n:Nonempty (A1 × A2 × A3)) (R:A1→A2→A3→Prop):A2:=(epP n fun t=>R t.1 t.2.1 t.2.2).2.1
noncomputable def x33 {A1 A2 A3:Type} (n:Nonempty (A1 × A2 × A3)) (R:A1→A2→A3→Prop):A3:=(epP n fun t=>R t.1 t.2.1 t.2.2).2.2
theorem ep3 {A1 A2 A3:Type} {R:A1→A2→A3→Prop} (n:Nonempty (A1 × A2 × A3):=by walk_at "am_ne") (h:R (x31 n R) (x32 n R) (x33 n R)):∀ a1 a2 a3,R a1 a2 a3:=fun a1 a2 a3=>epP_all (n:=n) (P:=fun t=>R t.1 t.2.1 t.2.2) h (a1,a2,a3)
noncomputable def x41 {A1 A2 A3 A4:Type} (n:Nonempty (A1 × A2 × A3 × A4)) (R:A1→A2→A3→A4→Prop):A1:=(epP n fun t=>R t.1 t.2.1 t.2.2.1 t.2.2.2).1
noncomputable def x42 {A1 A2 A3 A4:Type} (n:Nonempty (A1 × A2 × A3 × A4)) (R:A1→A2→A3→A4→Prop):A2:=(epP n fun t=>R t.1 t.2.1 t.2.2.1 t.2.2.2).2.1
noncomputable def x43 {A1 A2 A3 A4:Type} (n:Nonempty (A1 × A2 × A3 × A4)) (R:A1→A2→A3→A4→Prop):A3:=(epP n fun t=>R t.1 t.2.1 t.2.2.1 t.2.2.2).2.2.1
noncomputable def x44 {A1 A2 A3 A4:Type} (n:Nonempty (A1 × A2 × A3 × A4)) (R:A1→A2→A3→A4→Prop):A4:=(epP n fun t=>R t.1 t.2.1 t.2.2.1 t.2.2.2).2.2.2
theorem ep4 {A1 A2 A3 A4:Type} {R:A1→A2→A3→A4→Prop} (n:Nonempty (A1 × A2 × A3 × A4):=by walk_at "am_ne") (h:R (x41 n R) (x42 n R) (x43 n R) (x44 n R)):∀ a1 a2 a3 a4,R a1 a2 a3 a4:=fun a1 a2 a3 a4=>epP_all (n:=n) (P:=fun t=>R t.1 t.2.1 t.2.2.1 t.2.2.2) h (a1,a2,a3,a4)
noncomputable def x51 {A1 A2 A3 A4 A5:Type} (n:Nonempty (A1 × A2 × A3 × A4 × A5)) (R:A1→A2→A3→A4→A5→Prop):A1:=(epP n fun t=>R t.1 t.2.1 t.2.2.1 t.2.2.2.1 t.2.2.2.2).1
noncomputable def x52 {A1 A2 A3 A4 A5:Type} (n:Nonempty (A1 × A2 × A3 × A4 × A5)) (R:A1→A2→A3→A4→A5→Prop):A2:=(epP n fun t=>R t.1 t.2.1 t.2.2.1 t.2.2.2.1 t.2.2.2.2).2.1
noncomputable def x53 {A1 A2 A3 A4 A5:Type} (n:Nonempty (A1 × A2 × A3 × A4 × A5)) (R:A1→A2→A3→A4→A5→Prop):A3:=(epP n fun t=>R t.1 t.2.1 t.2.2.1 t.2.2.2.1 t.2.2.2.2).2.2.1
noncomputable def x54 {A1 A2 A3 A4 A5:Type} (n:Nonempty (A1 × A2 × A3 × A4 × A5)) (R:A1→A2→A3→A4→A5→Prop):A4:=(epP n fun t=>R t.1 t.2.1 t.2.2.1 t.2.2.2.1 t.2.2.2.2).2.2.2.1
noncomputable def x55 {A1 A2 A3 A4 A5:Type} (n:Nonempty (A1 × A2 × A3 × A4 × A5)) (R:A1→A2→A3→A4→A5→Prop):A5:=(epP n fun t=>R t.1 t.2.1 t.2.2.1 t.2.2.2.1 t.2.2.2.2).2.2.2.2
theorem ep5 {A1 A2 A3 A4 A5:Type} {R:A1→A2→A3→A4→A5→Prop} (n:Nonempty (A1 × A2 × A3 × A4 × A5):=by walk_at "am_ne") (h:R (x51 n R) (x52 n R) (x53 n R) (x54 n R) (x55 n R)):∀ a1 a2 a3 a4 a5,R a1 a2 a3 a4 a5:=fun a1 a2 a3 a4 a5=>epP_all (n:=n) (P:=fun t=>R t.1 t.2.1 t.2.2.1 t.2.2.2.1 t.2.2.2.2) h (a1,a2,a3,a4,a5)
noncomputable def x61 {A1 A2 A3 A4 A5 A6:Type} (n:Nonempty (A1 × A2 × A3 × A4 × A5 × A6)) (R:A1→A2→A3→A4→A5→A6→Prop):A1:=(epP n fun t=>R t.1 t.2.1 t.2.2.1 t.2.2.2.1 t.2.2.2.2.1 t.2.2.2.2.2).1
noncomputable def x62 {A1 A2 A3 A4 A5 A6:Type} (n:Nonempty (A1 × A2 × A3 × A4 × A5 × A6)) (R:A1→A2→A3→A4→A5→A6→Prop):A2:=(epP n fun t=>R t.1 t.2.1 t.2.2.1 t.2.2.2.1 t.2.2.2.2.1 t.2.2.2.2.2).2.1
noncomputable def x63 {A1 A2 A3 A4 A5 A6:Type} (n:Nonempty (A1 × A2 × A3 × A4 × A5 × A6)) (R:A1→A2→A3→A4→A5→A6→Prop):A3:=(epP n fun t=>R t.1 t.2.1 t.2.2.1 t.2.2.2.1 t.2.2.2.2.1 t.2.2.2.2.2).2.2.1
noncomputable def x64 {A1 A2 A3 A4 A5 A6:Type} (n:Nonempty (A1 × A2 × A3 × A4 × A5 × A6)) (R:A1→A2→A3→A4→A5→A6→Prop):A4:=(epP n fun t=>R t.1 t.2.1 t.2.2.1 t.2.2.2.1 t.2.2.2.2.1 t.2.2.2.2.2).2.2.2.1
noncomputable def x65 {A1 A2 A3 A4 A5 A6:Type} (n:Nonempty (A1 × A2 × A3 × A4 × A5 × A6)) (R:A1→A2→A3→A4→A5→A6→Prop):A5:=(epP n fun t=>R t.1 t.2.1 t.2.2.1 t.2.2.2.1 t.2.2.2.2.1 t.2.2.2.2.2).2.2.2.2.1
noncomputable def x66 {A1 A2 A3 A4 A5 A6:Type} (n:Nonempty (A1 × A2 × A3 × A4 × A5 × A6)) (R:A1→A2→A3→A4→A5→A6→Prop):A6:=(epP n fun t=>R t.1 t.2.1 t.2.2.1 t.2.2.2.1 t.2.2.2.2.1 t.2.2.2.2.2).2.2.2.2.2
theorem ep6 {A1 A2 A3 A4 A5 A6:Type} {R:A1→A2→A3→A4→A5→A6→Prop} (n:Nonempty (A1 × A2 × A3 × A4 × A5 × A6):=by walk_at "am_ne") (h:R (x61 n R) (x62 n R) (x63 n R) (x64 n R) (x65 n R) (x66 n R)):∀ a1 a2 a3 a4 a5 a6,R a1 a2 a3 a4 a5 a6:=fun a1 a2 a3 a4 a5 a6=>epP_all (n:=n) (P:=fun t=>R t.1 t.2.1 t.2.2.1 t.2.2.2.1 t.2.2.2.2.1 t.2.2.2.2.2) h (a1,a2,a3,a4,a5,a6)
noncomputable def x71 {A1 A2 A3 A4 A5 A6 A7:Type} (n:Nonempty (A1 × A2 × A3 × A4 × A5 × A6 × A7)) (R:A1→A2→A3→A4→A5→A6→A7→Prop):A1:=(epP n fun t=>R t.1 t.2.1 t.2.2.1 t.2.2.2.1 t.2.2.2.2.1 t.2.2.2.2.2.1 t.2.2.2.2.2.2).1
noncomputable def x72 {A1 A2 A3 A4 A5 A6 A7:Type} (n:Nonempty (A1 × A2 × A3 × A4 × A5 × A6 × A7)) (R:A1→A2→A3→A4→A5→A6→A7→Prop):A2:=(epP n fun t=>R t.1 t.2.1 t.2.2.1 t.2.2.2.1 t.2.2.2.2.1 t.2.2.2.2.2.1 t.2.2.2.2.2.2).2.1
noncomputable def x73 {A1 A2 A3 A4 A5 A6 A7:Type} (n:Nonempty (A1 × A2 × A3 × A4 × A5 × A6 × A7)) (R:A1→A2→A3→A4→A5→A6→A7→Prop):A3:=(epP n fun t=>R t.1 t.2.1 t.2.2.1 t.2.2.2.1 t.2.2.2.2.1 t.2.2.2.2.2.1 t.2.2.2.2.2.2).2.2.1
noncomputable def x74 {A1 A2 A3 A4 A5 A6 A7:Type} (n:Nonempty (A1 × A2 × A3 × A4 × A5 × A6 × A7)) (R:A1→A2→A3→A4→A5→A6→A7→Prop):A4:=(epP n fun t=>R t.1 t.2.1 t.2.2.1 t.2.2.2.1 t.2.2.2.2.1 t.2.2.2.2.2.1 t.2.2.2.2.2.2).2.2.2.1
noncomputable def x75 {A1 A2 A3 A4 A5 A6 A7:Type} (n:Nonempty (A1 × A2 × A3 × A4 × A5 × A6 × A7)) (R:A1→A2→A3→A4→A5→A6→A7→Prop):A5:=(epP n fun t=>R t.1 t.2.1 t.2.2.1 t.2.2.2.1 t.2.2.2.2.1 t.2.2.2.2.2.1 t.2.2.2.2.2.2).2.2.2.2.1
noncomputable def x76 {A1 A2 A3 A4 A5 A6 A7:Type} (n:Nonempty (A1 × A2 × A3 × A4 × A5 × A6 × A7)) (R:A1→A2→A3→A4→A5→A6→A7→Prop):A6:=(epP n fun t=>R t.1 t.2.1 t.2.2.1 t.2.2.2.1 t.2.2.2.2.1 t.2.2.2.2.2.1 t.2.2.2.2.2.2).2.2.2.2.2.1
noncomputable def x77 {A1 A2 A3 A4 A5 A6 A7:Type} (n:Nonempty (A1 × A2 × A3 × A4 × A5 × A6 × A7)) (R:A1→A2→A3→A4→A5→A6→A7→Prop):A7:=(epP n fun t=>R t.1 t.2.1 t.2.2.1 t.2.2.2.1 t.2.2.2.2.1 t.2.2.2.2.2.1 t.2.2.2.2.2.2).2.2.2.2.2.2
theorem ep7 {A1 A2 A3 A4 A5 A6 A7:Type} {R:A1→A2→A3→A4→A5→A6→A7→Prop} (n:Nonempty (A1 × A2 × A3 × A4 × A5 × A6 × A7):=by walk_at "am_ne") (h:R (x71 n R) (x72 n R) (x73 n R) (x74 n R) (x75 n R) (x76 n R) (x77 n R)):∀ a1 a2 a3 a4 a5 a6 a7,R a1 a2 a3 a4 a5 a6 a7:=fun a1 a2 a3 a4 a5 a6 a7=>epP_all (n:=n) (P:=fun t=>R t.1 t.2.1 t.2.2.1 t.2.2.2.1 t.2.2.2.2.1 t.2.2.2.2.2.1 t.2.2.2.2.2.2) h (a1,a2,a3,a4,a5,a6,a7)
noncomputable def x81 {A1 A2 A3 A4 A5 A6 A7 A8:Type} (n:Nonempty (A1 × A2 × A3 × A4 × A5 × A6 × A7 × A8)) (R:A1→A2→A3→A4→A5→A6→A7→A8→Prop):A1:=(epP n fun t=>R t.1 t.2.1 t.2.2.1 t.2.2.2.1 t.2.2.2.2.1 t.2.2.2.2.2.1 t.2.2.2.2.2.2.1 t.2.2.2.2.2.2.2).1
noncomputable def x82 {A1 A2 A3 A4 A5 A6 A7 A8:Type} (n:Nonempty (A1 × A2 × A3 × A4 × A5 × A6 × A7 × A8)) (R:A1→A2→A3→A4→A5→A6→A7→A8→Prop):A2:=(epP n fun t=>R t.1 t.2.1 t.2.2.1 t.2.2.2.1 t.2.2.2.2.1 t.2.2.2.2.2.1 t.2.2.2.2.2.2.1 t.2.2.2.2.2.2.2).2.1
noncomputable def x83 {A1 A2 A3 A4 A5 A6 A7 A8:Type} (n:Nonempty (A1 × A2 × A3 × A4 × A5 × A6 × A7 × A8)) (R:A1→A2→A3→A4→A5→A6→A7→A8→Prop):A3:=(epP n fun t=>R t.1 t.2.1 t.2.2.1 t.2.2.2.1 t.2.2.2.2.1 t.2.2.2.2.2.1 t.2.2.2.2.2.2.1 t.2.2.2.2.2.2.2).2.2.1
noncomputable def x84 {A1 A2 A3 A4 A5 A6 A7 A8:Type} (n:Nonempty (A1 × A2 × A3 × A4 × A5 × A6 × A7 × A8)) (R:A1→A2→A3→A4→A5→A6→A7→A8→Prop):A4:=(epP n fun t=>R t.1 t.2.1 t.2.2.1 t.2.2.2.1 t.2.2.2.2.1 t.2.2.2.2.2.1 t.2.2.2.2.2.2.1 t.2.2.2.2.2.2.2).2.2.2.1
noncomputable def x85 {A1 A2 A3 A4 A5 A6 A7 A8:Type} (n:Nonempty (A1 × A2 × A3 × A4 × A5 × A6 × A7 × A8)) (R:A1→A2→A3→A4→A5→A6→A7→A8→Prop):A5:=(epP n fun t=>R t.1 t.2.1 t.2.2.1 t.2.2.2.1 t.2.2.2.2.1 t.2.2.2.2.2.1 t.2.2.2.2.2.2.1 t.2.2.2.2.2.2.2).2.2.2.2.1
noncomputable def x86 {A1 A2 A3 A4 A5 A6 A7 A8:Type} (n:Nonempty (A1 × A2 × A3 × A4 × A5 × A6 × A7 × A8)) (R:A1→A2→A3→A4→A5→A6→A7→A8→Prop):A6:=(epP n fun t=>R t.1 t.2.1 t.2.2.1 t.2.2.2.1 t.2.2.2.2.1 t.2.2.2.2.2.1 t.2.2.2.2.2.2.1 t.2.2.2.2.2.2.2).2.2.2.2.2.1
noncomputable def x87 {A1 A2 A3 A4 A5 A6 A7 A8:Type} (n:Nonempty (A1 × A2 × A3 × A4 × A5 × A6 × A7 × A8)) (R:A1→A2→A3→A4→A5→A6→A7→A8→Prop):A7:=(epP n fun t=>R t.1 t.2.1 t.2.2.1 t.2.2.2.1 t.2.2.2.2.1 t.2.2.2.2.2.1 t.2.2.2.2.2.2.1 t.2.2.2.2.2.2.2).2.2.2.2.2.2.1
noncomputable def x88 {A1 A2 A3 A4 A5 A6 A7 A8:Type} (n:Nonempty (A1 × A2 × A3 × A4 × A5 × A6 × A7 × A8)) (R:A1→A2→A3→A4→A5→A6→A7→A8→Prop):A8:=(epP n fun t=>R t.1 t.2.1 t.2.2.1 t.2.2.2.1 t.2.2.2.2.1 t.2.2.2.2.2.1 t.2.2.2.2.2.2.1 t.2.2.2.2.2.2.2).2.2.2.2.2.2.2
theorem ep8 {A1 A2 A3 A4 A5 A6 A7 A8:Type} {R:A1→A2→A3→A4→A5→A6→A7→A8→Prop} (n:Nonempty (A1 × A2 × A3 × A4 × A5 × A6 × A7 × A8):=by walk_at "am_ne") (h:R (x81 n R) (x82 n R) (x83 n R) (x84 n R) (x85 n R) (x86 n R) (x87 n R) (x88 n R)):∀ a1 a2 a3 a4 a5 a6 a7 a8,R a1 a2 a3 a4 a5 a6 a7 a8:=fun a1 a2 a3 a4 a5 a6 a7 a8=>epP_all (n:=n) (P:=fun t=>R t.1 t.2.1 t.2.2.1 t.2.2.2.1 t.2.2.2.2.1 t.2.2.2.2.2.1 t.2.2.2.2.2.2.1 t.2.2.2.2.2.2.2) h (a1,a2,a3,a4,a5,a6,a7,a8)
end
section
section
variable {β:Type} {r:β}
theorem gA {x:Option AV} {A:AV→β} {B:β} {a:AV} (h:x=some a) (k:A a=r):(match (generalizing:=false) x with | some a=>A a | none=>B)=r:=by cases h;exact k
theorem gB {x:Option (AV × St)} {A:AV→St→β} {B:β} {a:AV} {s:St} (h:x=some (a,s)) (k:A a s=r):(match (generalizing:=false) x with | some (a,s)=>A a s | none=>B)=r:=by cases h;exact k
theorem gC {x:Option (Bool × St)} {A:Bool→St→β} {B:β} {a:Bool} {s:St} (h:x=some (a,s)) (k:A a s=r):(match (generalizing:=false) x with | some (a,s)=>A a s | none=>B)=r:=by cases h;exact k
theorem gD {x:Option (List AV × St)} {A:List AV→St→β} {B:β} {a:List AV} {s:St} (h:x=some (a,s)) (k:A a s=r):(match (generalizing:=false) x with | some (a,s)=>A a s | none=>B)=r:=by cases h;exact k
theorem gE {x:Option (Option Int × St)} {A:Option Int→St→β} {B:β} {a:Option Int} {s:St} (h:x=some (a,s)) (k:A a s=r):(match (generalizing:=false) x with | some (a,s)=>A a s | none=>B)=r:=by cases h;exact k
theorem gF {x:Option (Fl × Lo × St)} {A:Fl→Lo→St→β} {B:β} {a:Fl} {l:Lo} {s:St} (h:x=some (a,l,s)) (k:A a l s=r):(match (generalizing:=false) x with | some (a,l,s)=>A a l s | none=>B)=r:=by cases h;exact k
theorem gG {x:Option Bool} {A:Bool→β} {B:β} {a:Bool} (h:x=some a) (k:A a=r):(match (generalizing:=false) x with | some a=>A a | none=>B)=r:=by cases h;exact k
theorem gH {x:Option Lo} {A:Lo→β} {B:β} {a:Lo} (h:x=some a) (k:A a=r):(match (generalizing:=false) x with | some a=>A a | none=>B)=r:=by cases h;exact k
theorem gI {x:Option (List AV)} {A:List AV→β} {B:β} {a:List AV} (h:x=some a) (k:A a=r):(match (generalizing:=false) x with | some a=>A a | none=>B)=r:=by cases h;exact k
theorem gJ {x:Option MK} {A:MK→β} {B:β} {a:MK} (h:x=some a) (k:A a=r):(match (generalizing:=false) x with | some a=>A a | none=>B)=r:=by cases h;exact k
theorem gK {x:Option AO} {A:List AV→β} {B:β} {a:List AV} (h:x=some (.list a)) (k:A a=r):(match (generalizing:=false) x with | some (.list a)=>A a | _=>B)=r:=by cases h;exact k
theorem gL {x:Option AO} {A:List (AV × AV)→Nat→β} {B:β} {a:List (AV × AV)} {b:Nat} (h:x=some (.dict a b)) (k:A a b=r):(match (generalizing:=false) x with | some (.dict a b)=>A a b | _=>B)=r:=by cases h;exact k
theorem gM {x:Option AO} {A:Nat→Nat→β} {B:β} {a b:Nat} (h:x=some (.inst a b)) (k:A a b=r):(match (generalizing:=false) x with | some (.inst a b)=>A a b | _=>B)=r:=by cases h;exact k
theorem gN {x:Option AO} {A:List (Nat × AV)→β} {B:β} {a:List (Nat × AV)} (h:x=some (.attrs a)) (k:A a=r):(match (generalizing:=false) x with | some (.attrs a)=>A a | _=>B)=r:=by cases h;exact k
theorem gO {x:Bool} {A B:β} (h:x=true) (k:A=r):(match (generalizing:=false) x with | true=>A | false=>B)=r:=by cases h;exact k
theorem gP {x:Bool} {A B:β} (h:x=false) (k:B=r):(match (generalizing:=false) x with | true=>A | false=>B)=r:=by cases h;exact k
theorem gQ {x:Option (AV × St)} {A:AV × St→β} {B:β} {a:AV × St} (h:x=some a) (k:A a=r):(match (generalizing:=false) x with | some a=>A a | none=>B)=r:=by cases h;exact k
theorem gT {x:Option (AV × St)} {A:AV × St→β} {B:β} (h:x=none) (k:B=r):(match (generalizing:=false) x with | some a=>A a | none=>B)=r:=by cases h;exact k
theorem gX {x:Option (Bool × St)} {A B:St→β} {C:β} {s:St} (h:x=some (true,s)) (k:A s=r):(match (generalizing:=false) x with | some (true,s)=>A s | some (false,s)=>B s | none=>C)=r:=by cases h;exact k
theorem gY {x:Option (Bool × St)} {A B:St→β} {C:β} {s:St} (h:x=some (false,s)) (k:B s=r):(match (generalizing:=false) x with | some (true,s)=>A s | some (false,s)=>B s | none=>C)=r:=by cases h;exact k
theorem gZ {x:Option St} {A:St→β} {B:β} {s:St} (h:x=some s) (k:A s=r):(match (generalizing:=false) x with | some s=>A s | none=>B)=r:=by cases h;exact k
theorem gAn {x:Option AV} {A:AV→β} {B:β} (h:x=none) (k:B=r):(match (generalizing:=false) x with | some a=>A a | none=>B)=r:=by cases h;exact k
theorem gSi {x:Option AO} {A:AV→β} {B:β} {a:AV} (h:x=some (.list [a])) (k:A a=r):(match (generalizing:=false) x with | some (.list [a])=>A a | _=>B)=r:=by cases h;exact k
theorem gIt {x:Option (Option (AV × It))} {A:AV→It→β} {B C:β} {v:AV} {i:It} (h:x=some (some (v,i))) (k:A v i=r):(match (generalizing:=false) x with | some (some (v,i))=>A v i | some none=>B | none=>C)=r:=by cases h;exact k
theorem gIn {x:Option (Option (AV × It))} {A:AV→It→β} {B C:β} (h:x=some none) (k:B=r):(match (generalizing:=false) x with | some (some (v,i))=>A v i | some none=>B | none=>C)=r:=by cases h;exact k
theorem gNi {x:Option (AV × St)} {A:Int→St→β} {B:β} {i:Int} {s:St} (h:x=some (.int i,s)) (k:A i s=r):(match (generalizing:=false) x with | some (.int i,s)=>A i s | _=>B)=r:=by cases h;exact k
theorem gIs {x:Option (It × St)} {A:It→St→β} {B:β} {a:It} {s:St} (h:x=some (a,s)) (k:A a s=r):(match (generalizing:=false) x with | some (a,s)=>A a s | none=>B)=r:=by cases h;exact k
theorem gOf {x:Option Bool} {A B C:β} (h:x=some false) (k:B=r):(match (generalizing:=false) x with | some true=>A | some false=>B | none=>C)=r:=by cases h;exact k
theorem gBo {x:Option (Bool × List (AV × AV))} {A:Bool→List (AV × AV)→β} {B:β} {a:Bool} {s:List (AV × AV)} (h:x=some (a,s)) (k:A a s=r):(match (generalizing:=false) x with | some (a,s)=>A a s | none=>B)=r:=by cases h;exact k
theorem gR {x:Option Cls} {A:Cls→β} {B:β} {a:Cls} (h:x=some a) (k:A a=r):(match (generalizing:=false) x with | some a=>A a | none=>B)=r:=by cases h;exact k
theorem gS {x:Option Cls} {A:Cls→β} {B:β} (h:x=none) (k:B=r):(match (generalizing:=false) x with | some a=>A a | none=>B)=r:=by cases h;exact k
theorem gU {x:Option (Tr AV)} {A:Tr AV→β} {B:β} {a:Tr AV} (h:x=some a) (k:A a=r):(match (generalizing:=false) x with | some a=>A a | none=>B)=r:=by cases h;exact k
theorem gV {x:Option Fun} {A:Fun→β} {B:β} {a:Fun} (h:x=some a) (k:A a=r):(match (generalizing:=false) x with | some a=>A a | none=>B)=r:=by cases h;exact k
theorem gW {x:Nat} {A:Nat→β} {B:β} {d:Nat} (h:x=d+1) (k:A d=r):(match (generalizing:=false) x with | 0=>B | d+1=>A d)=r:=by cases h;exact k
end
end
section
open PySem
noncomputable def fnOfS (q:Str):List Stmt→Option (List Stmt)
 | []=>none
 | .FunctionDef n _ b _ _ _ _ _ _ _::r=>if n=q then some b else fnOfS q r
 | _::r=>fnOfS q r
noncomputable def clsOfS (q:Str):List Stmt→List Stmt
 | []=>[]
 | .ClassDef n _ _ b _ _ _ _ _ _ _::r=>if n=q then b else clsOfS q r
 | _::r=>clsOfS q r
noncomputable abbrev pw:=PySem.Challenge.pw_kg0024_02
noncomputable def meth (c n:String):List Stmt:=(fnOfS (Str.ofString n) (clsOfS (Str.ofString c) pw.main.body)).getD []
noncomputable def func (n:String):List Stmt:=(fnOfS (Str.ofString n) pw.main.body).getD []
noncomputable abbrev Rd (α:Type):=Nat→(α→Nat→List CS)→List CS
noncomputable def tk:Rd Nat:=fun s k=>plainN (Nat.mod s 256) fun a=>plainN (Nat.div s 256) fun s=>k a s
noncomputable def cvL (f:Expr→Rd CE):List Expr→Rd (List CE)
 | [],s,k=>k [] s
 | e::r,s,k=>f e s fun a s=>cvL f r s fun l s=>k (a::l) s
noncomputable def cvO (f:Expr→Rd CE):Option Expr→Rd (Option CE)
 | none,s,k=>k none s
 | some e,s,k=>f e s fun a s=>k (some a) s
noncomputable def cvE:Nat→Expr→Rd CE
 | 0,_,s,k=>k (.non default) s
 | n+1,e,s,k=>match e with
  | .Constant v _ p=>match v with
   | .bool b=>k (.boo b p) s
   | .int i=>k (.num i.toNat p) s
   | .str _=>tk s fun a s=>k (.str a p) s
   | _=>k (.non p) s
  | .Name _ p=>tk s fun a s=>k (bif Nat.blt a 128 then .loc a p else .gl (Nat.sub a 128) p) s
  | .Attribute v _ p=>cvE n v s fun v s=>tk s fun a s=>k (.attr v a p) s
  | .Subscript v i p=>match i with
   | .Slice lo hi _ ps=>cvO (cvE n) lo s fun lo s=>cvO (cvE n) hi s fun hi s=>cvE n v s fun v s=>k (.slc v lo hi ps p) s
   | i=>cvE n v s fun v s=>cvE n i s fun i s=>k (.sub v i p) s
  | .Compare l op r p=>match op,r with
   | [op],[r]=>cvE n l s fun l s=>cvE n r s fun r s=>k (.cmp l op r p) s
   | _,_=>k (.non p) s
  | .BoolOp op es p=>cvL (cvE n) es s fun es s=>k (match op with | .And=> .and es p | .Or=> .or es p) s
  | .UnaryOp op e p=>cvE n e s fun e s=>k (match op with | .Not=> .not e p | _=> .neg e p) s
  | .BinOp l op r p=>cvE n l s fun l s=>cvE n r s fun r s=>k (.bin l op r p) s
  | .IfExp t a b p=>cvE n t s fun t s=>cvE n a s fun a s=>cvE n b s fun b s=>k (.ifx t a b p) s
  | .List es p=>cvL (cvE n) es s fun es s=>k (.lst es p) s
  | .Tuple es _ p=>cvL (cvE n) es s fun es s=>k (.tup es p) s
  | .Dict _ _ p=>k (.dic p) s
  | .Call f es _ p=>match f with
   | .Attribute o _ pa=>cvE n o s fun o s=>tk s fun a s=>cvL (cvE n) es s fun es s=>k (.meth o a es pa p) s
   | f=>tk s fun a s=>cvL (cvE n) es s fun es s=>k (bif Nat.blt a 128 then .calL a f.pos es p else .calG (Nat.sub a 128) f.pos es p) s
  | _=>k (.non default) s
noncomputable def cvN:List Expr→Rd (List (Nat × Pos))
 | [],s,k=>k [] s
 | e::r,s,k=>tk s fun a s=>cvN r s fun l s=>k ((a,e.pos)::l) s
noncomputable def cvB (f:List Nat→Stmt→Rd CS) (p:List Nat):Nat→List Stmt→Rd (List CS)
 | _,[],s,k=>k [] s
 | i,x::r,s,k=>f (p++ [i]) x s fun c s=>cvB f p (i+1) r s fun l s=>k (c::l) s
noncomputable def cvS:Nat→List Nat→Stmt→Rd CS
 | 0,q,_,s,k=>k (.raw q) s
 | n+1,q,x,s,k=>tk s fun a s=>match a with
  | 0=>match x with
   | .Expr e p=>cvE 9 e s fun e s=>k (.expr e p) s
   | .Assign t e p=>match t with
    | .Name _ pt::_=>tk s fun a s=>cvE 9 e s fun e s=>k (.asgN a pt e p) s
    | .Attribute o _ pt::_=>cvE 9 o s fun o s=>tk s fun a s=>cvE 9 e s fun e s=>k (.asgA o a pt e p) s
    | .Subscript o i pt::_=>cvE 9 o s fun o s=>cvE 9 i s fun i s=>cvE 9 e s fun e s=>k (.asgS o i pt e p) s
    | .Tuple xs _ pt::_=>cvN xs s fun xs s=>cvE 9 e s fun e s=>k (.asgT xs pt e p) s
    | _=>k (.raw q) s
   | .AugAssign t op e p=>match t with
    | .Name _ pt=>tk s fun a s=>cvE 9 e s fun e s=>k (.augN a pt op e p) s
    | .Attribute o _ pt=>cvE 9 o s fun o s=>tk s fun a s=>cvE 9 e s fun e s=>k (.augA o a pt op e p) s
    | .Subscript o i pt=>cvE 9 o s fun o s=>cvE 9 i s fun i s=>cvE 9 e s fun e s=>k (.augS o i pt op e p) s
    | _=>k (.raw q) s
   | .If t b c p=>cvE 9 t s fun t s=>cvB (cvS n) (q++ [0]) 0 b s fun b s=>cvB (cvS n) (q++ [1]) 0 c s fun c s=>k (.ife t b c p) s
   | .While t b c p=>cvE 9 t s fun t s=>cvB (cvS n) (q++ [0]) 0 b s fun b s=>cvB (cvS n) (q++ [1]) 0 c s fun c s=>k (.whl t b c p) s
   | .For t e b c p=>
    let go:=fun (t:Tgt) s=>cvE 9 e s fun e s=>cvB (cvS n) (q++ [0]) 0 b s fun b s=>cvB (cvS n) (q++ [1]) 0 c s fun c s=>k (.forr t e b c p) s
    match t with
    | .Tuple xs _ pt=>cvN xs s fun xs s=>go (.two xs pt) s
    | t=>tk s fun a s=>go (.one a t.pos) s
   | .Return e p=>cvO (cvE 9) e s fun e s=>k (.ret e p) s
   | .Break p=>k (.brk p) s
   | .Continue p=>k (.cont p) s
   | .Assert t _ p=>cvE 9 t s fun t s=>k (.asrt t q p) s
   | .Pass p=>k (.pas p) s
   | _=>k (.raw q) s
  | 1=>k (.raw q) s
  | a+2=>k (.spec a q) s
noncomputable def cv (b:List Stmt) (s:Nat):List CS:=cvB (cvS 12) [] 0 b s fun l uu=>l
end
section
open PySem (Pos CmpOp)
noncomputable def r_Pi:List PySem.Stmt:=meth "Production" "__init__"
abbrev po (l a b:Nat):PySem.Pos:=⟨l,a,l,b⟩
noncomputable def b_Pi:List CS:=cv r_Pi 3557852309200728022799350522557476322512429188087833621800990012487760733585227309561403282197756964734297312325020770936303333033460013137930760903973692951086754384219749654561307933179355343510324178757571753730316195268423535297046483523148182080870411353162657869551063302815630356116300651589068188727425457805328384
noncomputable def l_Pi:List String:=["self","number","name","prod","precedence","func","file","line","n","s","namecount","key","nameuse","namemap","index","k","alias"]
noncomputable abbrev s_Pi_key:Nat:=11
noncomputable abbrev s_Pi_nameuse:Nat:=12
noncomputable abbrev s_Pi_namemap:Nat:=13
noncomputable abbrev s_Pi_index:Nat:=14
noncomputable abbrev s_Pi_k:Nat:=15
noncomputable def r_Pl:List PySem.Stmt:=meth "Production" "__len__"
noncomputable def b_Pl:List CS:=cv r_Pl 16812032
noncomputable def l_Pl:List String:=["self"]
noncomputable def r_Ii:List PySem.Stmt:=meth "LRItem" "__init__"
noncomputable def b_Ii:List CS:=cv r_Ii 21146379762673473361502812336068609019269043183836390000778236538752534529327813685164713422987540429581320192
noncomputable def l_Ii:List String:=["self","p","n"]
noncomputable def r_rt:List PySem.Stmt:=func "rightmost_terminal"
noncomputable def b_rt:List CS:=cv r_rt 10384752173399443045709395842826752
noncomputable def l_rt:List String:=["symbols","terminals","i"]
noncomputable def r_Gi:List PySem.Stmt:=meth "Grammar" "__init__"
noncomputable def b_Gi:List CS:=cv r_Gi 18591636412134348582716474067898385343022422466312302829066860300616587316925816293266794219872714752
noncomputable def l_Gi:List String:=["self","terminals","term"]
noncomputable def r_Gsp:List PySem.Stmt:=meth "Grammar" "set_precedence"
noncomputable def b_Gsp:List CS:=cv r_Gsp 17171671463907906728574653093096359124935376896
noncomputable def l_Gsp:List String:=["self","term","assoc","level"]
noncomputable def r_Gap:List PySem.Stmt:=meth "Grammar" "add_production"
noncomputable def b_Gap:List CS:=cv r_Gap 6836891731060600938416185273463344659913919709829511529367261641916365999122856338098273956579896466150105694053453298563980811079612748813939920697950391841777493640310741438959764650231676547808038132850641334452335154030413255190570819858061238748298735164398485423779964065127131532871769645728448723997362319514008651799882836232452476727992812958197372134883584
noncomputable def l_Gap:List String:=["self","prodname","syms","func","file","line","n","s","c","precname","prodprec","map","m","pnumber","t","p"]
noncomputable abbrev s_Gap_self:Nat:=0
noncomputable abbrev s_Gap_prodname:Nat:=1
noncomputable abbrev s_Gap_syms:Nat:=2
noncomputable abbrev s_Gap_map:Nat:=11
noncomputable abbrev s_Gap_p:Nat:=15
noncomputable def r_Gss:List PySem.Stmt:=meth "Grammar" "set_start"
noncomputable def b_Gss:List CS:=cv r_Gss 466012033889112930717559287038805218664948567264451914400530688
noncomputable def l_Gss:List String:=["self","start"]
noncomputable def r_Gup:List PySem.Stmt:=meth "Grammar" "unused_precedence"
noncomputable def b_Gup:List CS:=cv r_Gup 374156528462049140625136844352558957934244574265600
noncomputable def l_Gup:List String:=["self","unused","termname"]
noncomputable def r_Gf:List PySem.Stmt:=meth "Grammar" "_first"
noncomputable def b_Gf:List CS:=cv r_Gf 59289187641415763450211959739889965301027530107104179674620680933455019915608576
noncomputable def l_Gf:List String:=["self","beta","result","x","x_produces_empty","f"]
noncomputable def r_Gcfx:List PySem.Stmt:=meth "Grammar" "compute_first"
noncomputable def b_Gcfx:List CS:=cv r_Gcfx 388826429977700704444568056363429991391095368878483219925444034694244629070840534640911043105866136551162330433161948695096276887552440481412403944539095040
noncomputable def l_Gcfx:List String:=["self","t","n","some_change","p","f"]
noncomputable def r_Gcf:List PySem.Stmt:=meth "Grammar" "compute_follow"
noncomputable def b_Gcf:List CS:=cv r_Gcf 61909515368902236283735184230756052128956213298889274817018956563414465709459221011382442081746922320837620905839460875566711448583625058944638499269254004185876744398522384332855630135617970834279443720259426368097508165666103545214641146259825148996914212818529419264
noncomputable def l_Gcf:List String:=["self","start","k","didadd","p","i","B","fst","hasempty","f"]
noncomputable def r_Gbl:List PySem.Stmt:=meth "Grammar" "build_lritems"
noncomputable def b_Gbl:List CS:=cv r_Gbl 37305328416168017369088049450259470484915367713226885248143511944462803655734556597990637278300599943692544
noncomputable def l_Gbl:List String:=["self","p","lastlri","i","lr_items","lri"]
noncomputable abbrev s_Gbl_self:Nat:=0
noncomputable abbrev s_Gbl_i:Nat:=3
noncomputable abbrev s_Gbl_lri:Nat:=5
noncomputable def r_d:List PySem.Stmt:=func "digraph"
noncomputable def b_d:List CS:=cv r_d 161760504362268143236037173278538065998065764076108328245402821198592
noncomputable def l_d:List String:=["X","R","FP","N","x","stack","F"]
noncomputable def r_t:List PySem.Stmt:=func "traverse"
noncomputable def b_t:List CS:=cv r_t 248248368656828674022734244267478208922814943547554896338140759492148303703819050211757047280001925850668025036141910570697085356999633695245456042101831476887896043054870398288333748762249230376452211185914182625853952
noncomputable def l_t:List String:=["x","N","stack","F","X","R","FP","d","rel","y","a","element"]
noncomputable def r_Li:List PySem.Stmt:=meth "LRTable" "__init__"
noncomputable def b_Li:List CS:=cv r_Li 4258391725432427837841555452938733728896000631344481475060378737049378921757373450988262737523661261943297787801746396156106761648856639591753050943492861151883899395927854083644194816
noncomputable def l_Li:List String:=["self","grammar","state","actions","rules"]
noncomputable def r_Llc:List PySem.Stmt:=meth "LRTable" "lr0_closure"
noncomputable def b_Llc:List CS:=cv r_Llc 16687780763398412132722232034514858700935280057110412092236575649016824880019432466237067886592
noncomputable def l_Llc:List String:=["self","I","J","didadd","j","x"]
noncomputable def r_Llg:List PySem.Stmt:=meth "LRTable" "lr0_goto"
noncomputable def b_Llg:List CS:=cv r_Llg 277616115287068779940669286407973559672863721785970731199223413825926136870747462450067058854477361612081528537424251605388744975022800937378619940183568091089971757405635319876103477647948888860802044937883587634227843171072
noncomputable def l_Llg:List String:=["self","I","x","g","s","gs","p","n","s1"]
noncomputable def r_Lli:List PySem.Stmt:=meth "LRTable" "lr0_items"
noncomputable def b_Lli:List CS:=cv r_Lli 63324353380489853473255835636176477467064742444288026640691527804848263479846192610588516421619300437125617409267553423333829704342859789139936330267561723437326902972509061376
noncomputable def l_Lli:List String:=["self","C","i","I","asyms","ii","s","x","g"]
noncomputable def r_Lcnn:List PySem.Stmt:=meth "LRTable" "compute_nullable_nonterminals"
noncomputable def b_Lcnn:List CS:=cv r_Lcnn 35836753198450348081424669918529517886263386045191053704875734838158596917447154289091934666496501940480
noncomputable def l_Lcnn:List String:=["self","nullable","num_nullable","p","t"]
noncomputable def r_Lfnt:List PySem.Stmt:=meth "LRTable" "find_nonterminal_transitions"
noncomputable def b_Lfnt:List CS:=cv r_Lfnt 3885516915718147932423742889937319629345049166732333874022452702226681459186662900224
noncomputable def l_Lfnt:List String:=["self","C","trans","stateno","state","p","t"]
noncomputable def r_Ldr:List PySem.Stmt:=meth "LRTable" "dr_relation"
noncomputable def b_Ldr:List CS:=cv r_Ldr 303266725773540460015278519343336043375163737819531470059458130473236758676096530077424806678010634373030814590826243762165908480
noncomputable def l_Ldr:List String:=["self","C","trans","nullable","dr_set","state","N","terms","g","p","a"]
noncomputable def r_Lrr:List PySem.Stmt:=meth "LRTable" "reads_relation"
noncomputable def b_Lrr:List CS:=cv r_Lrr 143349148805998779136376900634265345531230417865988407993054012974162784297813728222605150727829228356608
noncomputable def l_Lrr:List String:=["self","C","trans","empty","rel","state","N","g","j","p","a"]
noncomputable def r_Lcli:List PySem.Stmt:=meth "LRTable" "compute_lookback_includes"
noncomputable def b_Lcli:List CS:=cv r_Lcli 94955414423311750016414191282770709975315340140599725795789746552179769864192933021239095187280426828942499497017458594038845557104965687287238880903701962846502896741275860569183730553089634230269342342380561070447911703012998385380775194327516508220576210108971678531960795578857031670394119060602021163867486233633310437238119066256012068927895246682028042512930919416832
noncomputable def l_Lcli:List String:=["self","C","trans","nullable","lookdict","includedict","dtrans","t","state","N","lookb","includes","p","lr_index","j","li","g","r","i"]
noncomputable def r_Lcrs:List PySem.Stmt:=meth "LRTable" "compute_read_sets"
noncomputable def b_Lcrs:List CS:=cv r_Lcrs 28334488537898174908937
noncomputable def l_Lcrs:List String:=["self","C","ntrans","nullable","FP","R","F"]
noncomputable abbrev s_Lcrs_self:Nat:=0
noncomputable abbrev s_Lcrs_C:Nat:=1
noncomputable abbrev s_Lcrs_nullable:Nat:=3
noncomputable abbrev s_Lcrs_FP:Nat:=4
noncomputable abbrev s_Lcrs_R:Nat:=5
noncomputable def r_Lcfs:List PySem.Stmt:=meth "LRTable" "compute_follow_sets"
noncomputable def b_Lcfs:List CS:=cv r_Lcfs 28334488536798663281675
noncomputable def l_Lcfs:List String:=["self","ntrans","readsets","inclsets","FP","R","F"]
noncomputable abbrev s_Lcfs_readsets:Nat:=2
noncomputable abbrev s_Lcfs_inclsets:Nat:=3
noncomputable abbrev s_Lcfs_FP:Nat:=4
noncomputable abbrev s_Lcfs_R:Nat:=5
noncomputable def r_Lal:List PySem.Stmt:=meth "LRTable" "add_lookaheads"
noncomputable def b_Lal:List CS:=cv r_Lal 15624975839990666778767389045732646739861719878773178621752547240157022121511983776512
noncomputable def l_Lal:List String:=["self","lookbacks","followset","trans","lb","state","p","f","a"]
noncomputable def r_Lall:List PySem.Stmt:=meth "LRTable" "add_lalr_lookaheads"
noncomputable def b_Lall:List CS:=cv r_Lall 13638877848280217269403120678658603637899428709889131196025707049232140164177544086016
noncomputable def l_Lall:List String:=["self","C","nullable","trans","readsets","lookd","included","followsets"]
noncomputable def r_Llpt:List PySem.Stmt:=meth "LRTable" "lr_parse_table"
noncomputable def b_Llpt:List CS:=cv r_Llpt 4345720482497244595714610094848947060481920540048059240976561347728105105428370903547577257113441939409551543049753281294500902222008020935795346388765897391359891832965325338738268034874524006235930499238884914270367830129193161620485177328901303361011975155118339509481374518135163826675719242370799045235924991427105656115908320165506917721667371907461888879798575323542832387423591690612592939172734987255934291826274608853982613563781113539501634286806104338681947941897218011274940886477453058886913449977375466633626562249678906336532807833358382708676987533797836397739089106203217285435338046046840275347505112140328272666809901633715442199084684932721902679564329842325395788716514218065681250157763406169544808747971674301503391250836758658606432512
noncomputable def l_Llpt:List String:=["self","Productions","Precedence","goto","action","actionp","C","st","I","st_action","st_actionp","st_goto","p","laheads","a","r","sprec","slevel","rprec","rlevel","oldp","pp","chosenp","rejectp","i","g","j","nkeys","ii","s","n"]
noncomputable abbrev s_Llpt_Productions:Nat:=1
noncomputable abbrev s_Llpt_st_action:Nat:=9
noncomputable abbrev s_Llpt_st_actionp:Nat:=10
noncomputable abbrev s_Llpt_p:Nat:=12
noncomputable abbrev s_Llpt_a:Nat:=14
noncomputable abbrev s_Llpt_slevel:Nat:=17
noncomputable abbrev s_Llpt_rprec:Nat:=18
noncomputable abbrev s_Llpt_rlevel:Nat:=19
noncomputable abbrev s_Llpt_j:Nat:=26
noncomputable def r_l:List PySem.Stmt:=func "law"
noncomputable def b_l:List CS:=[.asgN 1 (po 756 4 9) (.ifx (.loc 0 (po 756 25 31)) (.sub (.loc 0 (po 756 12 18)) (.num 0 (po 756 19 20)) (po 756 12 21)) (.num 0 (po 756 37 38)) (po 756 12 38)) (po 756 4 38),
 .asgN 2 (po 757 4 10) (.ifx (.cmp (.calG 8 (po 757 26 29) [.loc 0 (po 757 30 36)] (po 757 26 37)) .Gt (.num 1 (po 757 40 41)) (po 757 26 41)) (.sub (.loc 0 (po 757 13 19)) (.num 1 (po 757 20 21)) (po 757 13 22)) (.num 0 (po 757 47 48)) (po 757 13 48)) (po 757 4 48),
 .asgN 3 (po 758 4 8) (.dic (po 758 11 13)) (po 758 4 13),
 .asgN 4 (po 759 4 11) (.calG 80 (po 759 14 21) [.lst [.str 13 (po 759 23 26),.str 14 (po 759 28 31),.str 15 (po 759 33 36),.str 16 (po 759 38 41),.str 17 (po 759 43 46),.str 18 (po 759 48 51)] (po 759 22 52)] (po 759 14 53)) (po 759 4 53),
 .forr (.two [(5,(po 760 8 9)),(6,(po 760 11 15))] (po 760 8 15)) (.calG 10 (po 760 19 28) [.lst [.str 13 (po 760 30 33),.str 14 (po 760 35 38),.str 19 (po 760 40 43)] (po 760 29 44)] (po 760 19 45))
 [.spec 12 [4,0,0],
 .spec 13 [4,0,1],
 .expr (.meth (.loc 4 (po 763 8 15)) 81 [.loc 6 (po 763 31 35),.sub (.sub (.loc 3 (po 763 37 41)) (.loc 6 (po 763 42 46)) (po 763 37 47)) (.num 0 (po 763 48 49)) (po 763 37 50),.sub (.sub (.loc 3 (po 763 52 56)) (.loc 6 (po 763 57 61)) (po 763 52 62)) (.num 1 (po 763 63 64)) (po 763 52 65)] (po 763 8 30) (po 763 8 66)) (po 763 8 66)]
 [] ⟨760,4,763,66⟩,
 .forr (.one 8 (po 764 8 13)) (.lst [.lst [.str 20 (po 764 19 22),.str 13 (po 764 24 27),.str 20 (po 764 29 32)] (po 764 18 33),.lst [.str 20 (po 764 36 39),.str 14 (po 764 41 44),.str 20 (po 764 46 49)] (po 764 35 50),.lst [.str 15 (po 764 53 56),.str 20 (po 764 58 61),.str 6 (po 764 63 70),.str 19 (po 764 72 75)] (po 764 52 76),.lst [.str 17 (po 764 79 82),.str 20 (po 764 84 87),.str 18 (po 764 89 92)] (po 764 78 93),.lst [.str 16 (po 764 96 99)] (po 764 95 100)] (po 764 17 101))
 [.expr (.meth (.loc 4 (po 765 8 15)) 82 [.str 20 (po 765 31 34),.loc 8 (po 765 36 41)] (po 765 8 30) (po 765 8 42)) (po 765 8 42)]
 [] ⟨764,4,765,42⟩,
 .expr (.meth (.loc 4 (po 766 4 11)) 83 [] (po 766 4 21) (po 766 4 23)) (po 766 4 23),
 .asgN 9 (po 767 4 9) (.calG 84 (po 767 12 19) [.loc 4 (po 767 20 27)] (po 767 12 28)) (po 767 4 28),
 .ife (.or [.cmp (.attr (.loc 9 (po 768 7 12)) 56 (po 768 7 25)) .NotEq (.lst [] (po 768 29 31)) (po 768 7 31),.cmp (.attr (.loc 9 (po 768 35 40)) 57 (po 768 35 53)) .NotEq (.lst [] (po 768 57 59)) (po 768 35 59),.cmp (.meth (.loc 4 (po 768 63 70)) 85 [] (po 768 63 88) (po 768 63 90)) .NotEq (.lst [] (po 768 94 96)) (po 768 63 96)] (po 768 7 96))
 [.ret (some (.boo false (po 769 15 20))) (po 769 8 20)]
 [] ⟨768,4,769,20⟩,
 .asgN 10 (po 770 4 9) (.calG 86 (po 770 12 20) [.slc (.loc 0 (po 770 21 27)) (some (.num 2 (po 770 28 29))) none (po 770 28 30) (po 770 21 31)] (po 770 12 32)) (po 770 4 32),
 .asgN 11 (po 771 4 7) (.calG 87 (po 771 10 19) [.loc 3 (po 771 20 24),.loc 10 (po 771 26 31),.num 0 (po 771 33 34),.str 21 (po 771 36 38)] (po 771 10 39)) (po 771 4 39),
 .asgN 12 (po 772 4 8) (.ifx (.or [.cmp (.loc 11 (po 772 19 22)) .Is (.non (po 772 26 30)) (po 772 19 30),.cmp (.sub (.loc 11 (po 772 34 37)) (.num 1 (po 772 38 39)) (po 772 34 40)) .NotEq (.calG 8 (po 772 44 47) [.loc 10 (po 772 48 53)] (po 772 44 54)) (po 772 34 54)] (po 772 19 54)) (.non (po 772 11 15)) (.sub (.loc 11 (po 772 60 63)) (.num 0 (po 772 64 65)) (po 772 60 66)) (po 772 11 66)) (po 772 4 66),
 .ret (some (.cmp (.calG 88 (po 773 11 24) [.loc 4 (po 773 25 32),.loc 9 (po 773 34 39),.loc 10 (po 773 41 46)] (po 773 11 47)) .Eq (.loc 12 (po 773 51 55)) (po 773 11 55))) (po 773 4 55)]
noncomputable def l_l:List String:=["script","first","second","ways","grammar","k","sign","level","parts","table","signs","due","tree"]
noncomputable abbrev s_l_first:Nat:=1
noncomputable abbrev s_l_second:Nat:=2
noncomputable abbrev s_l_ways:Nat:=3
noncomputable abbrev s_l_k:Nat:=5
noncomputable abbrev s_l_sign:Nat:=6
noncomputable abbrev s_l_level:Nat:=7
noncomputable def r_lsx:List PySem.Stmt:=func "_law_signs"
noncomputable def b_lsx:List CS:=[.ret (some (.lst [.str 16 (po 669 12 15),.str 13 (po 669 17 20),.str 14 (po 669 22 25),.str 15 (po 669 27 30),.str 17 (po 669 32 35),.str 18 (po 669 37 40)] (po 669 11 41))) (po 669 4 41)]
noncomputable def l_lsx:List String:=[]
noncomputable def r_lrx:List PySem.Stmt:=func "_law_row"
noncomputable def b_lrx:List CS:=[.asgN 1 (po 671 4 9) (.lst [] (po 671 12 14)) (po 671 4 14),
 .asgN 2 (po 672 4 10) (.boo true (po 672 13 17)) (po 672 4 17),
 .asgN 3 (po 673 4 10) (.num 0 (po 673 13 14)) (po 673 4 14),
 .forr (.one 4 (po 674 8 14)) (.slc (.loc 0 (po 674 18 25)) none (some (.num 7 (po 674 27 28))) (po 674 26 28) (po 674 18 29))
 [.ife (.cmp (.loc 4 (po 675 11 17)) .Lt (.num 0 (po 675 20 21)) (po 675 11 21))
 [.asgN 5 (po 676 12 16) (.sub (.calG 96 (po 676 19 29) [] (po 676 19 31)) (.bin (.loc 4 (po 676 32 38)) .Mod (.num 6 (po 676 41 42)) (po 676 32 42)) (po 676 19 43)) (po 676 12 43)]
 [.ife (.loc 2 (po 677 13 19))
 [.asgN 5 (po 678 12 16) (.sub (.lst [.str 16 (po 678 20 23),.str 16 (po 678 25 28),.str 15 (po 678 30 33),.str 17 (po 678 35 38)] (po 678 19 39)) (.bin (.loc 4 (po 678 40 46)) .Mod (.num 4 (po 678 49 50)) (po 678 40 50)) (po 678 19 51)) (po 678 12 51)]
 [.asgN 5 (po 680 12 16) (.sub (.lst [.str 13 (po 680 20 23),.str 14 (po 680 25 28),.str 14 (po 680 30 33),.str 18 (po 680 35 38)] (po 680 19 39)) (.bin (.loc 4 (po 680 40 46)) .Mod (.num 4 (po 680 49 50)) (po 680 40 50)) (po 680 19 51)) (po 680 12 51)] ⟨677,8,680,51⟩] ⟨675,8,680,51⟩,
 .expr (.meth (.loc 1 (po 681 8 13)) 11 [.loc 5 (po 681 21 25)] (po 681 8 20) (po 681 8 26)) (po 681 8 26),
 .asgN 2 (po 682 8 14) (.cmp (.loc 5 (po 682 17 21)) .In (.lst [.str 13 (po 682 26 29),.str 14 (po 682 31 34),.str 15 (po 682 36 39),.str 17 (po 682 41 44)] (po 682 25 45)) (po 682 17 45)) (po 682 8 45),
 .ife (.cmp (.loc 5 (po 683 11 15)) .Eq (.str 17 (po 683 19 22)) (po 683 11 22))
 [.augN 3 (po 684 12 18) .Add (.num 1 (po 684 22 23)) (po 684 12 23)]
 [.ife (.and [.cmp (.loc 5 (po 685 13 17)) .Eq (.str 18 (po 685 21 24)) (po 685 13 24),.cmp (.loc 3 (po 685 29 35)) .Gt (.num 0 (po 685 38 39)) (po 685 29 39)] (po 685 13 39))
 [.augN 3 (po 686 12 18) .Sub (.num 1 (po 686 22 23)) (po 686 12 23)]
 [] ⟨685,8,686,23⟩] ⟨683,8,686,23⟩]
 [] ⟨674,4,686,23⟩,
 .ife (.loc 2 (po 687 7 13))
 [.expr (.meth (.loc 1 (po 688 8 13)) 11 [.str 16 (po 688 21 24)] (po 688 8 20) (po 688 8 25)) (po 688 8 25)]
 [] ⟨687,4,688,25⟩,
 .ret (some (.bin (.loc 1 (po 689 11 16)) .Add (.bin (.lst [.str 18 (po 689 20 23)] (po 689 19 24)) .Mult (.loc 3 (po 689 27 33)) (po 689 19 33)) (po 689 11 33))) (po 689 4 33)]
noncomputable def l_lrx:List String:=["numbers","signs","wanted","opened","number","sign"]
noncomputable def r_ls:List PySem.Stmt:=func "_law_settled"
noncomputable def b_ls:List CS:=[.ife (.cmp (.loc 1 (po 691 7 14)) .Eq (.str 21 (po 691 18 20)) (po 691 7 20))
 [.ret (some (.str 22 (po 692 15 22))) (po 692 8 22)]
 [] ⟨691,4,692,22⟩,
 .asgN 3 (po 693 4 8) (.sub (.loc 0 (po 693 11 15)) (.loc 1 (po 693 16 23)) (po 693 11 24)) (po 693 4 24),
 .asgN 4 (po 694 4 9) (.sub (.loc 0 (po 694 12 16)) (.loc 2 (po 694 17 21)) (po 694 12 22)) (po 694 4 22),
 .ife (.cmp (.sub (.loc 4 (po 695 7 12)) (.num 1 (po 695 13 14)) (po 695 7 15)) .Gt (.sub (.loc 3 (po 695 18 22)) (.num 1 (po 695 23 24)) (po 695 18 25)) (po 695 7 25))
 [.ret (some (.str 22 (po 696 15 22))) (po 696 8 22)]
 [] ⟨695,4,696,22⟩,
 .ife (.or [.cmp (.sub (.loc 4 (po 697 7 12)) (.num 1 (po 697 13 14)) (po 697 7 15)) .Lt (.sub (.loc 3 (po 697 18 22)) (.num 1 (po 697 23 24)) (po 697 18 25)) (po 697 7 25),.cmp (.sub (.loc 3 (po 697 29 33)) (.num 0 (po 697 34 35)) (po 697 29 36)) .Eq (.str 2 (po 697 40 46)) (po 697 29 46)] (po 697 7 46))
 [.ret (some (.str 23 (po 698 15 24))) (po 698 8 24)]
 [] ⟨697,4,698,24⟩,
 .ret (some (.ifx (.cmp (.sub (.loc 3 (po 699 22 26)) (.num 0 (po 699 27 28)) (po 699 22 29)) .Eq (.str 3 (po 699 33 40)) (po 699 22 40)) (.str 22 (po 699 11 18)) (.str 24 (po 699 46 55)) (po 699 11 55))) (po 699 4 55)]
noncomputable def l_ls:List String:=["ways","pending","sign","here","there"]
noncomputable def r_lr:List PySem.Stmt:=func "_law_read"
noncomputable def b_lr:List CS:=[.ife (.cmp (.loc 2 (po 701 7 12)) .GtE (.calG 8 (po 701 16 19) [.loc 1 (po 701 20 25)] (po 701 16 26)) (po 701 7 26))
 [.ret (some (.non (po 702 15 19))) (po 702 8 19)]
 [] ⟨701,4,702,19⟩,
 .ife (.cmp (.sub (.loc 1 (po 703 7 12)) (.loc 2 (po 703 13 18)) (po 703 7 19)) .Eq (.str 16 (po 703 23 26)) (po 703 7 26))
 [.asgN 4 (po 704 8 12) (.lst [.str 16 (po 704 16 19)] (po 704 15 20)) (po 704 8 20),
 .asgN 2 (po 705 8 13) (.bin (.loc 2 (po 705 16 21)) .Add (.num 1 (po 705 24 25)) (po 705 16 25)) (po 705 8 25)]
 [.ife (.cmp (.sub (.loc 1 (po 706 9 14)) (.loc 2 (po 706 15 20)) (po 706 9 21)) .Eq (.str 17 (po 706 25 28)) (po 706 9 28))
 [.asgN 5 (po 707 8 13) (.calG 87 (po 707 16 25) [.loc 0 (po 707 26 30),.loc 1 (po 707 32 37),.bin (.loc 2 (po 707 39 44)) .Add (.num 1 (po 707 47 48)) (po 707 39 48),.str 21 (po 707 50 52)] (po 707 16 53)) (po 707 8 53),
 .ife (.or [.cmp (.loc 5 (po 708 11 16)) .Is (.non (po 708 20 24)) (po 708 11 24),.cmp (.sub (.loc 5 (po 708 28 33)) (.num 1 (po 708 34 35)) (po 708 28 36)) .GtE (.calG 8 (po 708 40 43) [.loc 1 (po 708 44 49)] (po 708 40 50)) (po 708 28 50),.cmp (.sub (.loc 1 (po 708 54 59)) (.sub (.loc 5 (po 708 60 65)) (.num 1 (po 708 66 67)) (po 708 60 68)) (po 708 54 69)) .NotEq (.str 18 (po 708 73 76)) (po 708 54 76)] (po 708 11 76))
 [.ret (some (.non (po 709 19 23))) (po 709 12 23)]
 [] ⟨708,8,709,23⟩,
 .asgN 4 (po 710 8 12) (.lst [.str 17 (po 710 16 19),.sub (.loc 5 (po 710 21 26)) (.num 0 (po 710 27 28)) (po 710 21 29),.str 18 (po 710 31 34)] (po 710 15 35)) (po 710 8 35),
 .asgN 2 (po 711 8 13) (.bin (.sub (.loc 5 (po 711 16 21)) (.num 1 (po 711 22 23)) (po 711 16 24)) .Add (.num 1 (po 711 27 28)) (po 711 16 28)) (po 711 8 28)]
 [.ife (.cmp (.sub (.loc 1 (po 712 9 14)) (.loc 2 (po 712 15 20)) (po 712 9 21)) .Eq (.str 15 (po 712 25 28)) (po 712 9 28))
 [.asgN 5 (po 713 8 13) (.calG 87 (po 713 16 25) [.loc 0 (po 713 26 30),.loc 1 (po 713 32 37),.bin (.loc 2 (po 713 39 44)) .Add (.num 1 (po 713 47 48)) (po 713 39 48),.str 19 (po 713 50 53)] (po 713 16 54)) (po 713 8 54),
 .ife (.cmp (.loc 5 (po 714 11 16)) .Is (.non (po 714 20 24)) (po 714 11 24))
 [.ret (some (.non (po 715 19 23))) (po 715 12 23)]
 [] ⟨714,8,715,23⟩,
 .asgN 4 (po 716 8 12) (.lst [.str 15 (po 716 16 19),.sub (.loc 5 (po 716 21 26)) (.num 0 (po 716 27 28)) (po 716 21 29)] (po 716 15 30)) (po 716 8 30),
 .asgN 2 (po 717 8 13) (.sub (.loc 5 (po 717 16 21)) (.num 1 (po 717 22 23)) (po 717 16 24)) (po 717 8 24)]
 [.ret (some (.non (po 719 15 19))) (po 719 8 19)] ⟨712,4,719,19⟩] ⟨706,4,719,19⟩] ⟨703,4,719,19⟩,
 .whl (.and [.cmp (.loc 2 (po 720 10 15)) .Lt (.calG 8 (po 720 18 21) [.loc 1 (po 720 22 27)] (po 720 18 28)) (po 720 10 28),.cmp (.sub (.loc 1 (po 720 33 38)) (.loc 2 (po 720 39 44)) (po 720 33 45)) .In (.lst [.str 13 (po 720 50 53),.str 14 (po 720 55 58)] (po 720 49 59)) (po 720 33 59)] (po 720 10 59))
 [.asgN 6 (po 721 8 15) (.calG 97 (po 721 18 30) [.loc 0 (po 721 31 35),.loc 3 (po 721 37 44),.sub (.loc 1 (po 721 46 51)) (.loc 2 (po 721 52 57)) (po 721 46 58)] (po 721 18 59)) (po 721 8 59),
 .ife (.cmp (.loc 6 (po 722 11 18)) .Eq (.str 24 (po 722 22 31)) (po 722 11 31))
 [.ret (some (.non (po 723 19 23))) (po 723 12 23)]
 [] ⟨722,8,723,23⟩,
 .ife (.cmp (.loc 6 (po 724 11 18)) .Eq (.str 23 (po 724 22 31)) (po 724 11 31))
 [.brk (po 725 12 17)]
 [] ⟨724,8,725,17⟩,
 .asgN 7 (po 726 8 13) (.calG 87 (po 726 16 25) [.loc 0 (po 726 26 30),.loc 1 (po 726 32 37),.bin (.loc 2 (po 726 39 44)) .Add (.num 1 (po 726 47 48)) (po 726 39 48),.sub (.loc 1 (po 726 50 55)) (.loc 2 (po 726 56 61)) (po 726 50 62)] (po 726 16 63)) (po 726 8 63),
 .ife (.cmp (.loc 7 (po 727 11 16)) .Is (.non (po 727 20 24)) (po 727 11 24))
 [.ret (some (.non (po 728 19 23))) (po 728 12 23)]
 [] ⟨727,8,728,23⟩,
 .asgN 4 (po 729 8 12) (.lst [.loc 4 (po 729 16 20),.sub (.loc 1 (po 729 22 27)) (.loc 2 (po 729 28 33)) (po 729 22 34),.sub (.loc 7 (po 729 36 41)) (.num 0 (po 729 42 43)) (po 729 36 44)] (po 729 15 45)) (po 729 8 45),
 .asgN 2 (po 730 8 13) (.sub (.loc 7 (po 730 16 21)) (.num 1 (po 730 22 23)) (po 730 16 24)) (po 730 8 24)]
 [] ⟨720,4,730,24⟩,
 .ret (some (.tup [.loc 4 (po 731 12 16),.loc 2 (po 731 18 23)] (po 731 11 24))) (po 731 4 24)]
noncomputable def l_lr:List String:=["ways","signs","place","pending","tree","inner","settled","right"]
noncomputable def r_lf:List PySem.Stmt:=func "_law_followed"
noncomputable def b_lf:List CS:=[.asgN 3 (po 733 4 10) (.lst [.num 0 (po 733 14 15)] (po 733 13 16)) (po 733 4 16),
 .asgN 4 (po 734 4 9) (.lst [] (po 734 12 14)) (po 734 4 14),
 .asgN 5 (po 735 4 9) (.num 0 (po 735 12 13)) (po 735 4 13),
 .forr (.one 6 (po 736 8 12)) (.calG 94 (po 736 16 21) [.num 80 (po 736 22 24)] (po 736 16 25))
 [.asgN 7 (po 737 8 12) (.ifx (.cmp (.loc 5 (po 737 31 36)) .Lt (.calG 8 (po 737 39 42) [.loc 2 (po 737 43 48)] (po 737 39 49)) (po 737 31 49)) (.sub (.loc 2 (po 737 15 20)) (.loc 5 (po 737 21 26)) (po 737 15 27)) (.str 9 (po 737 55 61)) (po 737 15 61)) (po 737 8 61),
 .asgN 8 (po 738 8 11) (.meth (.sub (.attr (.loc 1 (po 738 14 19)) 47 (po 738 14 29)) (.sub (.loc 3 (po 738 30 36)) (.neg (.num 1 (po 738 38 39)) (po 738 37 39)) (po 738 30 40)) (po 738 14 41)) 35 [.loc 7 (po 738 46 50)] (po 738 14 45) (po 738 14 51)) (po 738 8 51),
 .ife (.cmp (.loc 8 (po 739 11 14)) .Is (.non (po 739 18 22)) (po 739 11 22))
 [.ret (some (.non (po 740 19 23))) (po 740 12 23)]
 [] ⟨739,8,740,23⟩,
 .ife (.cmp (.loc 8 (po 741 11 14)) .Gt (.num 0 (po 741 17 18)) (po 741 11 18))
 [.expr (.meth (.loc 3 (po 742 12 18)) 11 [.loc 8 (po 742 26 29)] (po 742 12 25) (po 742 12 30)) (po 742 12 30),
 .expr (.meth (.loc 4 (po 743 12 17)) 11 [.loc 7 (po 743 25 29)] (po 743 12 24) (po 743 12 30)) (po 743 12 30),
 .augN 5 (po 744 12 17) .Add (.num 1 (po 744 21 22)) (po 744 12 22)]
 [.ife (.cmp (.loc 8 (po 745 13 16)) .Lt (.num 0 (po 745 19 20)) (po 745 13 20))
 [.asgN 9 (po 746 12 16) (.sub (.attr (.loc 0 (po 746 19 26)) 24 (po 746 19 38)) (.neg (.loc 8 (po 746 40 43)) (po 746 39 43)) (po 746 19 44)) (po 746 12 44),
 .asgN 10 (po 747 12 16) (.bin (.calG 8 (po 747 19 22) [.loc 4 (po 747 23 28)] (po 747 19 29)) .Sub (.calG 8 (po 747 32 35) [.attr (.loc 9 (po 747 36 40)) 1 (po 747 36 45)] (po 747 32 46)) (po 747 19 46)) (po 747 12 46),
 .asgN 11 (po 748 12 16) (.slc (.loc 4 (po 748 19 24)) (some (.loc 10 (po 748 25 29))) none (po 748 25 30) (po 748 19 31)) (po 748 12 31),
 .asgN 4 (po 749 12 17) (.bin (.slc (.loc 4 (po 749 20 25)) none (some (.loc 10 (po 749 27 31))) (po 749 26 31) (po 749 20 32)) .Add (.lst [.loc 11 (po 749 36 40)] (po 749 35 41)) (po 749 20 41)) (po 749 12 41),
 .asgN 3 (po 750 12 18) (.slc (.loc 3 (po 750 21 27)) none (some (.bin (.loc 10 (po 750 29 33)) .Add (.num 1 (po 750 36 37)) (po 750 29 37))) (po 750 28 37) (po 750 21 38)) (po 750 12 38),
 .expr (.meth (.loc 3 (po 751 12 18)) 11 [.sub (.sub (.attr (.loc 1 (po 751 26 31)) 48 (po 751 26 39)) (.sub (.loc 3 (po 751 40 46)) (.neg (.num 1 (po 751 48 49)) (po 751 47 49)) (po 751 40 50)) (po 751 26 51)) (.attr (.loc 9 (po 751 52 56)) 0 (po 751 52 61)) (po 751 26 62)] (po 751 12 25) (po 751 12 63)) (po 751 12 63)]
 [.ret (some (.sub (.loc 4 (po 753 19 24)) (.neg (.num 1 (po 753 26 27)) (po 753 25 27)) (po 753 19 28))) (po 753 12 28)] ⟨745,8,753,28⟩] ⟨741,8,753,28⟩]
 [] ⟨736,4,753,28⟩,
 .ret (some (.non (po 754 11 15))) (po 754 4 15)]
noncomputable def l_lf:List String:=["grammar","table","signs","states","trees","place","turn","sign","act","rule","kept","tree"]
noncomputable abbrev n_prod:Nat:=1
noncomputable abbrev n_number:Nat:=3
noncomputable abbrev n_lr_index:Nat:=20
noncomputable abbrev n_Prodnames:Nat:=25
noncomputable abbrev n_lr_after:Nat:=64
noncomputable abbrev n_place_of:Nat:=67
noncomputable abbrev n_lr_before:Nat:=68
noncomputable abbrev n_reduced:Nat:=79
noncomputable abbrev n__law_ways:Nat:=95
noncomputable def nameT:List String:=["name","prod","tuple","number","func","file","line","prec","len","usyms","enumerate","append","setdefault","_name_aliases","dict","fromkeys","namemap","lr_items","lr_next","list","lr_index","lookaheads","insert","rightmost_terminal","Productions","Prodnames","Prodmap","Terminals","Nonterminals","First","Follow","Precedence","UsedPrecedence","set","Start","get","add","Production","_first","compute_first","LRItem","traverse","digraph","min","MAXINT","pop","grammar","lr_action","lr_goto","lr_productions","lr_goto_cache","lr0_cidhash","_add_count","sr_conflict","rr_conflict","conflicts","sr_conflicts","rr_conflicts","build_lritems","compute_follow","lr_parse_table","defaulted_states","items","values","lr_after","getattr","lr0_added","place_of","lr_before","lr0_closure","lr0_goto","compute_nullable_nonterminals","find_nonterminal_transitions","compute_read_sets","compute_lookback_includes","compute_follow_sets","add_lookaheads","lr0_items","add_lalr_lookaheads","reduced","Grammar","set_precedence","add_production","set_start","LRTable","unused_precedence","_law_row","_law_read","_law_followed","law","__init__","__len__","dr_relation","reads_relation","range","_law_ways","_law_signs","_law_settled","KeyError","IndexError"]
noncomputable def strC:List (List Nat):=[[46],[101,114,114,111,114],[108,101,102,116],[114,105,103,104,116],[110,111,110,97,115,115,111,99],[39,34],[37,112,114,101,99],[83,39],[60,101,109,112,116,121,62],[36,101,110,100],[108,114,48,95,97,100,100,101,100],[114,101,100,117,99,101],[115,104,105,102,116],[97],[98],[109],[110],[40],[41],[85],[69],[],[103,111,32,111,110],[103,111,32,98,97,99,107],[114,101,102,117,115,101,100]]
noncomputable def f_Pi:Fun:=⟨8,[.junk,.non,.str [],.int 0],b_Pi⟩
noncomputable def f_Pl:Fun:=⟨1,[],b_Pl⟩
noncomputable def f_Ii:Fun:=⟨3,[],b_Ii⟩
noncomputable def f_rt:Fun:=⟨2,[],b_rt⟩
noncomputable def f_Gi:Fun:=⟨2,[],b_Gi⟩
noncomputable def f_Gsp:Fun:=⟨4,[],b_Gsp⟩
noncomputable def f_Gap:Fun:=⟨6,[.non,.str [],.int 0],b_Gap⟩
noncomputable def f_Gss:Fun:=⟨2,[.non],b_Gss⟩
noncomputable def f_Gup:Fun:=⟨1,[],b_Gup⟩
noncomputable def f_Gf:Fun:=⟨2,[],b_Gf⟩
noncomputable def f_Gcfx:Fun:=⟨1,[],b_Gcfx⟩
noncomputable def f_Gcf:Fun:=⟨2,[.non],b_Gcf⟩
noncomputable def f_Gbl:Fun:=⟨1,[],b_Gbl⟩
noncomputable def f_d:Fun:=⟨3,[],b_d⟩
noncomputable def f_t:Fun:=⟨7,[],b_t⟩
noncomputable def f_Li:Fun:=⟨2,[],b_Li⟩
noncomputable def f_Llc:Fun:=⟨2,[],b_Llc⟩
noncomputable def f_Llg:Fun:=⟨3,[],b_Llg⟩
noncomputable def f_Lli:Fun:=⟨1,[],b_Lli⟩
noncomputable def f_Lcnn:Fun:=⟨1,[],b_Lcnn⟩
noncomputable def f_Lfnt:Fun:=⟨2,[],b_Lfnt⟩
noncomputable def f_Ldr:Fun:=⟨4,[],b_Ldr⟩
noncomputable def f_Lrr:Fun:=⟨4,[],b_Lrr⟩
noncomputable def f_Lcli:Fun:=⟨4,[],b_Lcli⟩
noncomputable def f_Lcrs:Fun:=⟨4,[],b_Lcrs⟩
noncomputable def f_Lcfs:Fun:=⟨4,[],b_Lcfs⟩
noncomputable def f_Lal:Fun:=⟨3,[],b_Lal⟩
noncomputable def f_Lall:Fun:=⟨2,[],b_Lall⟩
noncomputable def f_Llpt:Fun:=⟨1,[],b_Llpt⟩
noncomputable def f_l:Fun:=⟨1,[],b_l⟩
noncomputable def f_lsx:Fun:=⟨0,[],b_lsx⟩
noncomputable def f_lrx:Fun:=⟨1,[],b_lrx⟩
noncomputable def f_ls:Fun:=⟨3,[],b_ls⟩
noncomputable def f_lr:Fun:=⟨4,[],b_lr⟩
noncomputable def f_lf:Fun:=⟨3,[],b_lf⟩
noncomputable def fnT:List (Nat × Fun):=[(1000,f_Pi),
 (1001,f_Pl),
 (1002,f_Ii),
 (23,f_rt),
 (1004,f_Gi),
 (1005,f_Gsp),
 (1006,f_Gap),
 (1007,f_Gss),
 (1008,f_Gup),
 (1009,f_Gf),
 (1010,f_Gcfx),
 (1011,f_Gcf),
 (1012,f_Gbl),
 (42,f_d),
 (41,f_t),
 (1015,f_Li),
 (1016,f_Llc),
 (1017,f_Llg),
 (1018,f_Lli),
 (1019,f_Lcnn),
 (1020,f_Lfnt),
 (1021,f_Ldr),
 (1022,f_Lrr),
 (1023,f_Lcli),
 (1024,f_Lcrs),
 (1025,f_Lcfs),
 (1026,f_Lal),
 (1027,f_Lall),
 (1028,f_Llpt),
 (89,f_l),
 (96,f_lsx),
 (86,f_lrx),
 (97,f_ls),
 (87,f_lr),
 (88,f_lf)]
noncomputable def globT:List (Nat × AV):=[(67,.glo 67),(42,.glo 42),(41,.glo 41),(23,.glo 23),(37,.glo 37),(40,.glo 40),(80,.glo 80),(84,.glo 84),(13,.glo 13),(95,.glo 95),(96,.glo 96),(86,.glo 86),(97,.glo 97),(87,.glo 87),(88,.glo 88),(44,.int 9223372036854775807)]
noncomputable def clsT:List (Nat × Cls):=[(37,⟨[(90,1000),(91,1001)],[(79,.int 0)],1000,some 1001⟩),
 (40,⟨[(90,1002)],[],1002,none⟩),
 (80,⟨[(90,1004),(81,1005),(82,1006),(83,1007),(85,1008),(38,1009),(39,1010),(59,1011),(58,1012)],[],1004,some 1030⟩),
 (84,⟨[(90,1015),(69,1016),(70,1017),(77,1018),(71,1019),(72,1020),(92,1021),(93,1022),(74,1023),(73,1024),(75,1025),(76,1026),(78,1027),(60,1028)],[],1015,none⟩)]
noncomputable def theN:Nms:=⟨11,22,45,35,12,62,63,36,8,2,19,10,94,33,65,43,14,15,66,98,99⟩
noncomputable def clos0:Nat × CE:=(4,.meth (.loc 1 ⟨539,23,539,27⟩) 92 [.loc 2 ⟨539,40,539,41⟩,.loc 0 ⟨539,43,539,44⟩,.loc 3 ⟨539,46,539,54⟩] ⟨539,23,539,39⟩ ⟨539,23,539,55⟩)
noncomputable def lc0:List String:=["x","self","C","nullable"]
noncomputable def clos1:Nat × CE:=(4,.meth (.loc 1 ⟨540,22,540,26⟩) 93 [.loc 2 ⟨540,42,540,43⟩,.loc 0 ⟨540,45,540,46⟩,.loc 3 ⟨540,48,540,56⟩] ⟨540,22,540,41⟩ ⟨540,22,540,57⟩)
noncomputable def lc1:List String:=["x","self","C","nullable"]
noncomputable def clos2:Nat × CE:=(2,.sub (.loc 1 ⟨545,23,545,31⟩) (.loc 0 ⟨545,32,545,33⟩) ⟨545,23,545,34⟩)
noncomputable def lc2:List String:=["x","readsets"]
noncomputable def clos3:Nat × CE:=(2,.meth (.loc 1 ⟨546,22,546,30⟩) 35 [.loc 0 ⟨546,35,546,36⟩,.lst [] ⟨546,38,546,40⟩] ⟨546,22,546,34⟩ ⟨546,22,546,41⟩)
noncomputable def lc3:List String:=["x","inclsets"]
noncomputable def assoc {α:Type} (k:Nat):List (Nat × α)→Option α
 | []=>none
 | e::r=>match Nat.beq e.1 k with
  | true=>some e.2
  | false=>assoc k r
noncomputable def placeGo (P:Pr) (s:St):List AV→Option (List AV)
 | []=>some []
 | x::r=>match getA P x n_number s with
  | some (.int a)=>match getA P x n_lr_index s with
   | some (.int b)=>match placeGo P s r with
    | some r=>some (.tup [.int a,.int b]::r)
    | none=>none
   | _=>none
  | _=>none
noncomputable def thePrim (P:Pr) (k:Nat) (args:List AV) (s:St):Option (AV × St):=match Nat.beq k n_place_of with
 | true=>match args with
  | [.ref n]=>match s.h.get n with
   | some (.list xs)=>match small xs with
    | true=>match placeGo P s xs with
     | some r=>some (.tup r,s)
     | none=>none
    | false=>none
   | _=>none
  | _=>none
 | false=>none
noncomputable def digit (i:Int):Option (List Nat):=match i with
 | .ofNat n=>match Nat.blt n 10 with
  | true=>plainN (48+n) fun d=>some [d]
  | false=>none
 | .negSucc _=>none
noncomputable def okC (c:Nat):Bool:=Nat.beq c 69 || (Nat.beq c 97 || (Nat.beq c 98 || (Nat.beq c 109 || (Nat.beq c 40 || (Nat.beq c 41 || Nat.beq c 110)))))
noncomputable def reprStrs:List AV→Option (List Nat)
 | []=>none
 | x::r=>match x with
  | .str t=>match t with
   | [c]=>match okC c with
    | true=>match r with
     | []=>some [39,c,39,93]
     | _::_=>match reprStrs r with
      | some r=>some (39::c::39::44::32::r)
      | none=>none
    | false=>none
   | _=>none
  | _=>none
noncomputable def sp0 (l:Lo) (s:St):Option (Lo × St):=match l.get s_Pi_key with
 | some (.str t)=>match l.get s_Pi_nameuse with
  | some u=>match getI u (.str t) s with
   | some (.int i)=>match small t with
    | true=>match digit i with
     | some d=>match app t d with
      | some t=>match l.set s_Pi_k (.str t) with
       | some l=>some (l,s)
       | none=>none
      | none=>none
     | none=>none
    | false=>none
   | _=>none
  | none=>none
 | _=>none
noncomputable def tabAt (s:St) (k n:Nat):Bool:=match s.h.get k with
 | some (.tab j m)=>match Nat.beq j k with
  | true=>Nat.beq m n
  | false=>false
 | _=>false
noncomputable def sp1 (l:Lo) (s:St):Option (Lo × St):=match tabAt s 0 0 || tabAt s 0 1 with
 | true=>match s.upd 0 (.tab 0 1) with
  | some s=>match l.get s_Pi_index with
   | some _=>match l.get s_Pi_namemap with
    | some u=>match l.get s_Pi_k with
     | some k=>match setI u k .junk s with
      | some s=>some (l,s)
      | none=>none
     | none=>none
    | none=>none
   | none=>none
  | none=>none
 | false=>none
noncomputable def sp2 (l:Lo) (s:St):Option (Lo × St):=match l.get s_Gap_syms with
 | some (.ref n)=>match s.h.get n with
  | some (.list xs)=>match small xs with
   | true=>match takeN xs (lenN xs - 2) with
    | some xs=>match s.upd n (.list xs) with
     | some s=>some (l,s)
     | none=>none
    | none=>none
   | false=>none
  | _=>none
 | _=>none
noncomputable def sp3 (l:Lo) (s:St):Option (Lo × St):=match l.get s_Gap_syms with
 | some (.ref n)=>match s.h.get n with
  | some (.list xs)=>match l.get s_Gap_prodname with
   | some (.str t)=>match small t with
    | true=>match small xs with
     | true=>match reprStrs xs with
      | some r=>match app t (32::45::62::32::91::r) with
       | some t=>match l.set s_Gap_map (.str t) with
        | some l=>some (l,s)
        | none=>none
       | none=>none
      | none=>none
     | false=>none
    | false=>none
   | _=>none
  | _=>none
 | _=>none
noncomputable def sp4 (P:Pr) (l:Lo) (s:St):Option (Lo × St):=match l.get s_Gap_self with
 | some g=>match getA P g n_Prodnames s with
  | some (.ref d)=>match s.h.get d with
   | some (.dict es ep)=>match l.get s_Gap_prodname with
    | some k=>match l.get s_Gap_p with
     | some p=>match find k es with
      | some (some (.ref n))=>match s.h.get n with
       | some (.list xs)=>match small xs with
        | true=>match snoc p xs with
         | some xs=>match s.upd n (.list xs) with
          | some s=>some (l,s)
          | none=>none
         | none=>none
        | false=>none
       | _=>none
      | some none=>match vals es with
       | some _=>match k with
        | .str _=>match s.new (.list [p]) with
         | some (v,s)=>match setI (.ref d) k v s with
          | some s=>some (l,s)
          | none=>none
         | none=>none
        | _=>none
       | none=>none
      | _=>none
     | none=>none
    | none=>none
   | _=>none
  | _=>none
 | none=>none
noncomputable def sp5 (P:Pr) (l:Lo) (s:St):Option (Lo × St):=match l.get s_Gbl_self with
 | some g=>match getA P g n_Prodnames s with
  | some (.ref d)=>match s.h.get d with
   | some (.dict es _)=>match l.get s_Gbl_lri with
    | some x=>match getA P x n_prod s with
     | some (.tup ps)=>match l.get s_Gbl_i with
      | some (.int (.ofNat i))=>match (match small ps with | true=>(match Nat.ble i 4000 with | true=>nth ps (i+1) | false=>some .junk) | false=>some .junk) with
       | none=>match s.new (.list []) with
        | some (v,s)=>match setA P x n_lr_after v s with
         | some s=>some (l,s)
         | none=>none
        | none=>none
       | some k=>match find k es with
        | some (some v)=>match setA P x n_lr_after v s with
         | some s=>some (l,s)
         | none=>none
        | some none=>match vals es with
         | some _=>match k with
          | .str _=>match s.new (.list []) with
           | some (v,s)=>match setA P x n_lr_after v s with
            | some s=>some (l,s)
            | none=>none
           | none=>none
          | _=>none
         | none=>none
        | none=>none
      | _=>none
     | _=>none
    | none=>none
   | _=>none
  | _=>none
 | none=>none
noncomputable def sp6 (P:Pr) (l:Lo) (s:St):Option (Lo × St):=match l.get s_Gbl_lri with
 | some x=>match getA P x n_prod s with
  | some (.tup ps)=>match l.get s_Gbl_i with
   | some (.int i)=>match getI (.tup ps) (.int (i - 1)) s with
    | some v=>match setA P x n_lr_before v s with
     | some s=>some (l,s)
     | none=>none
    | none=>none
   | _=>none
  | _=>none
 | none=>none
noncomputable def spC (k t n a b c x:Nat) (l:Lo) (s:St):Option (Lo × St):=match tabAt s t n with
 | true=>match s.upd t (.tab t (n+1)) with
  | some s=>match l.get a with
   | some a=>match l.get b with
    | some b=>match l.get c with
     | some c=>match l.set x (.clo k [a,b,c]) with
      | some l=>some (l,s)
      | none=>none
     | none=>none
    | none=>none
   | none=>none
  | none=>none
 | false=>none
noncomputable def spC1 (k t n a x:Nat) (l:Lo) (s:St):Option (Lo × St):=match tabAt s t n with
 | true=>match s.upd t (.tab t (n+1)) with
  | some s=>match l.get a with
   | some a=>match l.set x (.clo k [a]) with
    | some l=>some (l,s)
    | none=>none
   | none=>none
  | none=>none
 | false=>none
noncomputable def half (n:Nat):Option Nat:=match n with
 | 1=>some 0
 | 3=>some 1
 | 5=>some 2
 | _=>none
noncomputable def ownInt (v:AV) (a:Nat) (s:St):Bool:=match v with
 | .ref n=>match s.h.get n with
  | some (.inst _ d)=>match s.h.get d with
   | some (.attrs es)=>match findA a es with
    | some (.int _)=>true
    | some .aint=>true
    | _=>false
   | _=>false
  | _=>false
 | _=>false
noncomputable def sp11b (P:Pr) (pr sa sp a:AV) (x y k j:Nat) (l:Lo) (s:St):Option (Lo × St):=match ownInt pr n_reduced s with
 | true=>match setA P pr n_reduced .aint s with
  | some s=>match getI sa a s with
   | some (.int r)=>match beqI r (-(.ofNat k)) with
    | true=>match setI sa a (.act x y k j) s with
     | some s=>match getI sp a s with
      | some _=>match setI sp a .junk s with
       | some s=>some (l,s)
       | none=>none
      | none=>none
     | none=>none
    | false=>none
   | _=>none
  | none=>none
 | false=>none
noncomputable def sp11 (P:Pr) (l:Lo) (s:St):Option (Lo × St):=match l.get s_Llpt_slevel with
 | some (.sym ly)=>match l.get s_Llpt_rlevel with
  | some (.sym lx)=>match half ly with
   | some y=>match half lx with
    | some x=>match l.get s_Llpt_rprec with
     | some (.sym wx)=>match Nat.beq wx (2 * x) with
      | true=>match l.get s_Llpt_j with
       | some (.int (.ofNat j))=>match l.get s_Llpt_a with
        | some a=>match l.get s_Llpt_st_action with
         | some sa=>match l.get s_Llpt_st_actionp with
          | some sp=>match getI sp a s with
           | some q=>match getA P q n_number s with
            | some (.int (.ofNat k))=>match getI sa a s with
             | some (.int r)=>match beqI r (-(.ofNat k)) with
              | true=>match l.get s_Llpt_Productions with
               | some ps=>match l.get s_Llpt_p with
                | some _=>match getI ps (.int (.ofNat k)) s with
                 | some pr=>match getA P pr n_reduced s with
                  | some (.int _)=>sp11b P pr sa sp a x y k j l s
                  | some .aint=>sp11b P pr sa sp a x y k j l s
                  | _=>none
                 | none=>none
                | none=>none
               | none=>none
              | false=>none
             | _=>none
            | _=>none
           | none=>none
          | none=>none
         | none=>none
        | none=>none
       | _=>none
      | false=>none
     | _=>none
    | none=>none
   | none=>none
  | _=>none
 | _=>none
noncomputable def isSym (v:Option AV) (k:Nat):Bool:=match v with
 | some (.sym m)=>Nat.beq m k
 | _=>false
noncomputable def sp12 (l:Lo) (s:St):Option (Lo × St):=match l.get s_l_k with
 | some (.int (.ofNat k))=>match Nat.blt k 3 with
  | true=>match isSym (l.get s_l_second) 10 with
   | true=>match l.set s_l_level (.sym (6+k)) with
    | some l=>some (l,s)
    | none=>none
   | false=>none
  | false=>none
 | _=>none
noncomputable def sp13 (l:Lo) (s:St):Option (Lo × St):=match l.get s_l_k with
 | some (.int (.ofNat k))=>match Nat.blt k 3 with
  | true=>match isSym (l.get s_l_first) 9 with
   | true=>match isSym (l.get s_l_level) (6+k) with
    | true=>match l.get s_l_ways with
     | some w=>match l.get s_l_sign with
      | some g=>plainN (2 * k) fun i=>plainN (2 * k+1) fun j=>match setI w g (.tup [.sym i,.sym j]) s with
       | some s=>some (l,s)
       | none=>none
      | none=>none
     | none=>none
    | false=>none
   | false=>none
  | false=>none
 | _=>none
noncomputable def theSpec (P:Pr) (k:Nat) (l:Lo) (s:St):Option (Lo × St):=match k with
 | 0=>sp0 l s
 | 1=>sp1 l s
 | 2=>sp2 l s
 | 3=>sp3 l s
 | 4=>sp4 P l s
 | 5=>sp5 P l s
 | 6=>sp6 P l s
 | 7=>spC 0 1 0 s_Lcrs_self s_Lcrs_C s_Lcrs_nullable s_Lcrs_FP l s
 | 8=>spC 1 1 1 s_Lcrs_self s_Lcrs_C s_Lcrs_nullable s_Lcrs_R l s
 | 9=>spC1 2 2 0 s_Lcfs_readsets s_Lcfs_FP l s
 | 10=>spC1 3 2 1 s_Lcfs_inclsets s_Lcfs_R l s
 | 11=>sp11 P l s
 | 12=>sp12 l s
 | 13=>sp13 l s
 | _=>none
noncomputable def theStr (k:Nat):List Nat:=match nth strC k with | some s=>s | none=>[]
noncomputable def Pz:Pr:=⟨theStr,(fun k=>assoc k globT),(fun k=>assoc k clsT),(fun k=>assoc k fnT),(fun uu uu uu=>none),(fun uu uu uu=>none),(fun uu=>none)⟩
noncomputable def P1:Pr:=⟨theStr,(fun k=>assoc k globT),(fun k=>assoc k clsT),(fun k=>assoc k fnT),thePrim Pz,theSpec Pz,(fun k=>assoc k [(0,clos0),(1,clos1),(2,clos2),(3,clos3)])⟩
noncomputable def EV (n:Nat):Ev:=lvl P1 theN n
noncomputable def lawBody:List CS:=takeD 7 (dropN b_l 2)
where takeD (n:Nat) (l:List CS):List CS:=match takeN l n with | some l=>l | none=>[]
noncomputable def lo0:Lo:=⟨30,.node (some (.glo 2000)) (.node (some (.sym 9)) .nil .nil) (.node (some (.sym 10)) .nil .nil)⟩
noncomputable def tr3:Tr AO:= .node (some (.tab 0 0)) (.node (some (.tab 1 0)) .nil .nil) (.node (some (.tab 2 0)) .nil .nil)
noncomputable def st0:St:=⟨tr3,3⟩
noncomputable def theRun (n:Nat):Option (Fl × Lo × St):=(EV n).exs lawBody lo0 st0
section
variable {β:Type} {r:β} {P:Prop}
set_option tactic.hygienic true in
theorem m17 {x:Option AV} {A:Int→Option β} (h:(match x with | some (.int a0)=>A a0 | _=>none)=some r) (k:∀ a0,A a0=some r→x=some (.int a0)→P):P:=by walk_at "mp"
set_option tactic.hygienic true in
theorem m24 {x:Option AV} {A:Nat→Option β} (h:(match x with | some (.int (.ofNat a0))=>A a0 | _=>none)=some r) (k:∀ a0,A a0=some r→x=some (.int (.ofNat a0))→P):P:=by walk_at "mp"
set_option tactic.hygienic true in
theorem m30 {x:Option AV} {A:Nat→Option β} (h:(match x with | some (.ref a0)=>A a0 | _=>none)=some r) (k:∀ a0,A a0=some r→x=some (.ref a0)→P):P:=by walk_at "mp"
theorem m33 {x:Option (List Nat)} {A:List Nat→Option β} (h:(match x with | some a0=>A a0 | none=>none)=some r) (k:∀ a0,A a0=some r→x=some a0→P):P:=by walk_at "mp"
set_option tactic.hygienic true in
theorem m51 {x:Option AV} {A:List AV→Option β} (h:(match x with | some (.tup a0)=>A a0 | _=>none)=some r) (k:∀ a0,A a0=some r→x=some (.tup a0)→P):P:=by walk_at "mp"
set_option tactic.hygienic true in
theorem m54 {x:Option AV} {A:List Nat→Option β} (h:(match x with | some (.str a0)=>A a0 | _=>none)=some r) (k:∀ a0,A a0=some r→x=some (.str a0)→P):P:=by walk_at "mp"
theorem m92 {x:List AV} {A:Nat→Option β} (h:(match x with | ((.ref a0)::[])=>A a0 | _=>none)=some r) (k:∀ a0,A a0=some r→x=((.ref a0)::[])→P):P:=by
 cases x with
 | cons y00 y01=>
  cases y00 with
  | ref y10=>
   cases y01 with
   | nil=>
    exact k y10 h rfl
   | _=>exact nos h
  | _=>exact nos h
 | _=>exact nos h
set_option tactic.hygienic true in
theorem m110 {x:List Nat} {A:Nat→Option β} (h:(match x with | (a0::[])=>A a0 | _=>none)=some r) (k:∀ a0,A a0=some r→x=(a0::[])→P):P:=by walk_at "mp"
theorem m179 {x:Int} {A:Nat→Option β} (h:(match x with | .ofNat a0=>A a0 | .negSucc a0=>none)=some r) (k:∀ a0,A a0=some r→x= .ofNat a0→P):P:=by walk_at "mp"
end
end
section
open PySem PySem.W PyProof.Rows PySem.SeqAt
theorem Vd (a b:Int):beqI a b=decide (a=b):=by
 cases a <;> cases b <;> simp [beqI,Tr.beq_eq]
 lia
theorem ltI_eq (a b:Int):ltI a b=decide (a < b):=by
 have e:∀ m n:Nat,Nat.blt m n=decide (m < n):=fun m n=>by
  cases h:Nat.blt m n with
  | true=>simp [PySem.W.Z.blt_iff.mp h]
  | false=>
   have:¬m < n:=fun q=>by rw [PySem.W.Z.blt_iff.mpr q] at h;exact taf h
   simp [this]
 cases a with
 | ofNat m=>cases b with
  | ofNat n=>rw [ltI];(try dsimp only);(try dsimp only);rw [e];congr 1;simp
  | negSucc n=>rw [ltI];(try dsimp only);symm;apply Wk;simp;lia
 | negSucc m=>cases b with
  | ofNat n=>rw [ltI];(try dsimp only);symm;apply Wj;simp;lia
  | negSucc n=>rw [ltI];(try dsimp only);(try dsimp only);rw [e];congr 1;simp;lia
theorem Vb:∀ s t:List Nat,beqS s t=decide (s=t)
 | [],[]=>rfl
 | [],_::_=>(Wk fun e=>nomatch e).symm
 | _::_,[]=>(Wk fun e=>nomatch e).symm
 | x::xs,y::ys=>by
  refine (?_:(match Nat.beq x y with | true=>beqS xs ys | false=>false)=_)
  rw [Tr.beq_eq,Vb xs ys]
  by_cases h:x=y <;> simp [h]
theorem eqL_c {g:AV→AV→Option Bool} {x y:AV} {xs ys:List AV} {r:Bool} {P:Prop} (h:eqL g (x::xs) (y::ys)=some r) (k1:g x y=some true→eqL g xs ys=some r→P) (k2:g x y=some false→r=false→P):P:=by
 have key:∀ o,(match o with | some true=>eqL g xs ys | r=>r)=some r→(o=some true→eqL g xs ys=some r→P)→(o=some false→r=false→P)→P:=by
  intro o h a b
  cases o with
  | none=>exact nos h
  | some q=>
   cases q with
   | true=>exact a rfl h
   | false=>exact b rfl (Qz h).symm
 exact key _ h k1 k2
theorem eqL_t {g:AV→AV→Option Bool} {x y:AV} {xs ys:List AV} (h:g x y=some true):eqL g (x::xs) (y::ys)=eqL g xs ys:=by
 refine (?_:(match g x y with | some true=>eqL g xs ys | r=>r)=_);rw [h]
theorem eqL_f {g:AV→AV→Option Bool} {x y:AV} {xs ys:List AV} (h:g x y=some false):eqL g (x::xs) (y::ys)=some false:=by
 refine (?_:(match g x y with | some true=>eqL g xs ys | r=>r)=_);rw [h]
theorem beqK_tot (f:Nat):∀ {a b:AV},isKeyF f a=true→isKeyF f b=true→∃ r,beqK f a b=some r:=by
 induction f with
 | zero=>intro a b h;exact fat h
 | succ f ih=>
  intro a b ha hb
  have key:∀ xs ys:List AV,isKeyF.allK (isKeyF f) xs=true→isKeyF.allK (isKeyF f) ys=true→∃ r,eqL (beqK f) xs ys=some r:=by
   intro xs
   induction xs with
   | nil=>intro ys uu uu;cases ys <;> exact ⟨_,rfl⟩
   | cons x xs jh=>
    intro ys h1 h2
    cases ys with
    | nil=>exact ⟨_,rfl⟩
    | cons y ys=>
     refine zBo h1 (fun h1 hx=> ?_) fun h1 uu=>fat h1
     refine zBo h2 (fun h2 hy=> ?_) fun h2 uu=>fat h2
     refine oE (ih hx hy) fun r hr=> ?_
     cases r with
     | true=>rw [eqL_t hr];exact jh ys h1 h2
     | false=>exact ⟨_,eqL_f hr⟩
  cases a <;> first | exact fat ha | skip
  all_goals (cases b <;> first | exact fat hb | skip)
  all_goals first | exact ⟨_,rfl⟩ | exact key _ _ ha hb
theorem eqL_all {g:AV→AV→Option Bool} (xs:List AV):∀ {e:Nat→Bool} (ys:List AV) (r:Bool),(∀ j x y,xs[j]? =some x→ys[j]? =some y→g x y=some (e j))→eqL g xs ys=some r→
  ((List.range (min xs.length ys.length)).all e && xs.length==ys.length)=r:=by
 induction xs with
 | nil=>
  intro e ys r uu h
  cases ys with
  | nil=>refine e1 h ?_;rfl
  | cons y ys=>refine e1 h ?_;rfl
 | cons x xs ih=>
  intro e ys r ht h
  cases ys with
  | nil=>refine e1 h ?_;rfl
  | cons y ys=>
   have hr:min (x::xs).length (y::ys).length=min xs.length ys.length+1:=Nat.succ_min_succ _ _
   have h0:=ht 0 x y rfl rfl
   rw [hr,List.range_succ_eq_map,List.all_cons,List.all_map]
   refine eqL_c h (fun q h=> ?_) fun q h=> ?_
   ·rw [q] at h0
    rw [←Qz h0,Bool.true_and]
    have:=ih (e:=e ∘ Nat.succ) ys r (fun j=>ht (j+1)) h
    rw [←this]
    simp
   ·rw [q] at h0
    rw [←Qz h0,h];rfl
theorem eqL_eq {g:AV→AV→Option Bool} (ht:∀ x y q,g x y=some q→(q=true ↔ x=y)) (xs:List AV):∀ (ys:List AV) (r:Bool),eqL g xs ys=some r→(r=true ↔ xs=ys):=by
 induction xs with
 | nil=>
  intro ys r h
  cases ys with
  | nil=>refine e1 h ?_;exact ⟨fun uu=>rfl,fun uu=>rfl⟩
  | cons y ys=>refine e1 h ?_;exact ⟨fun q=>fat q,fun q=>nomatch q⟩
 | cons x xs ih=>
  intro ys r h
  cases ys with
  | nil=>refine e1 h ?_;exact ⟨fun q=>fat q,fun q=>nomatch q⟩
  | cons y ys=>
   refine eqL_c h (fun q h=> ?_) fun q h=> ?_
   ·have e:=(ht _ _ _ q).mp rfl
    rw [ih ys r h,e]
    exact ⟨fun z=>congrArg _ z,fun z=>(List.cons.inj z).2⟩
   ·have e:=(ht _ _ _ q)
    rw [h]
    exact ⟨fun q=>fat q,fun z=>e.mpr (List.cons.inj z).1⟩
theorem beqK_eq (f:Nat):∀ {a b:AV} {r:Bool},beqK f a b=some r→(r=true ↔ a=b):=by
 induction f with
 | zero=>intro a b r h;exact nos h
 | succ f ih=>
  intro a b r h
  cases a <;> first | exact nos h | skip
  all_goals (cases b <;> first | exact nos h | skip)
  all_goals first | (refine e1 h ?_;exact ⟨fun q=>fat q,fun q=>nomatch q⟩) | skip
  ·refine e1 h ?_;rw [Vd,decide_eq_true_eq];exact ⟨congrArg _,AV.int.inj⟩
  ·refine e1 h ?_;rw [Vb,decide_eq_true_eq];exact ⟨congrArg _,AV.str.inj⟩
  ·rw [eqL_eq (fun x y q hq=>ih hq) _ _ _ h];exact ⟨congrArg _,AV.tup.inj⟩
theorem eqK_eq {a b:AV} {r:Bool} (h:eqK a b=some r):(r=true ↔ a=b):=beqK_eq 6 h
theorem eqK_tot {a b:AV} (ha:isKey a=true) (hb:isKey b=true):∃ r,eqK a b=some r:=beqK_tot 6 ha hb
theorem Vg {p:AV→Bool} {xs:List AV} (h:isKeyF.allK p xs=true):∀ x∈xs,p x=true:=by
 induction xs with
 | nil=>intro x hx;exact nomatch hx
 | cons x xs ih=>
  intro y hy
  refine zBo h (fun h hx=> ?_) fun h uu=>fat h
  rcases Zq hy with rfl | hy
  ·exact hx
  ·exact ih h y hy
section
variable {G:Gl} {W:Wd}
noncomputable def Pins (W:Wd) (h:Heap):Prop:=∀ p∈W.pin,h.get? p.1=some p.2
theorem Pins.tup {h:Heap} (P:Pins W h) {xs:List AV} {v:Value} (hv:VRel G W (.tup xs) v):∃ a vs,v= .ref a∧h.IsTuple a vs.toArray∧VRels G W xs vs:=by
 refine vTup hv fun uu uu uu uu hp hc hd hr=> ?_;exact ⟨_,_,rfl,⟨_,P _ hp,hc,_,hd⟩,hr⟩
theorem kInt {f:Nat} {i:Int} {t:Tok} {a:AV} (ha:isKeyF (f+1) a=true) (h:VRel G W a (.int i t)):a= .int i:=by cases h <;> first | rfl | exact fat ha
theorem kStr {f:Nat} {x:Str} {t:Tok} {a:AV} (ha:isKeyF (f+1) a=true) (h:VRel G W a (.str x t)):∃ s,a= .str s∧x=mkS s:=by cases h <;> first | exact ⟨_,rfl,rfl⟩ | exact fat ha
theorem kRef {f:Nat} {ad:Addr} {a:AV} (ha:isKeyF (f+1) a=true) (h:VRel G W a (.ref ad)):∃ ys us n o,a= .tup ys∧(ad,o)∈W.pin∧o.data= .seq us.toArray n∧VRels G W ys us:=by
 cases h <;> first | exact fat ha | exact ⟨_,_,_,_,rfl,by assumption,by assumption,by assumption⟩
theorem key_same {h:Heap} (P:Pins W h) (f:Nat):∀ {a b:AV} {v:Value},isKeyF f a=true→isKeyF f b=true→VRel G W a v→VRel G W b v→a=b:=by
 induction f with
 | zero=>intro a b v ha;exact fat ha
 | succ f ih=>
  intro a b v ha hb va vb
  have key:∀ (xs ys:List AV) (vs:List Value),(∀ x∈xs,isKeyF f x=true)→(∀ x∈ys,isKeyF f x=true)→VRels G W xs vs→VRels G W ys vs→xs=ys:=by
   intro xs
   induction xs with
   | nil=>intro ys vs uu uu h1 h2;(have e0:=isN h1;clear h1;subst e0);cases h2;rfl
   | cons x xs jh=>
    intro ys vs k1 k2 h1 h2
    revert h2
    refine vsC h1 fun uu uu a1 r1 h2=> ?_
    ·cases h2 with | cons a2 r2=>
     rw [ih (k1 _ (.head _)) (k2 _ (.head _)) a1 a2,jh _ _ (fun x hx=>k1 x (.tail _ hx)) (fun x hx=>k2 x (.tail _ hx)) r1 r2]
  cases a with
  | int i=>revert vb;refine vInt va fun t vb=> ?_;exact (kInt hb vb).symm
  | str s=>
   revert vb;refine vStr va fun t vb=> ?_
   refine oEA (kStr hb vb) fun s' e1 e2=> ?_
   rw [e1,mkS_inj e2]
  | tup xs=>
   revert vb;refine vTup va fun a vs n o hp hc hd hr vb=> ?_
   obtain ⟨ys,us,n',o',e,hp',hd',hr'⟩:=kRef hb vb
   subst e
   have e1:=P _ hp
   have e2:=P _ hp'
   rw [e1] at e2;cases e2
   have e3:=hd.symm.trans hd'
   injection e3 with h1 h2
   have:vs=us:=by simpa using congrArg Array.toList h1
   subst this
   rw [key xs ys vs (Vg ha) (Vg hb) hr hr']
  | _=>exact fat ha
theorem tup_K {s:Shared} {f:Nat} {A:Around} {xs ys:List AV} {vs us:List Value} {r:Bool} (step:∀ {x y:AV} {u v:Value} {z:Bool},isKeyF f x=true→isKeyF f y=true→beqK f x y=some z→VRel G W x u→VRel G W y v→EqAt A.in1 s u v z)
  (hx:∀ x∈xs,isKeyF f x=true) (hy:∀ x∈ys,isKeyF f x=true) (h:eqL (beqK f) xs ys=some r) (hr:VRels G W xs vs) (hr':VRels G W ys us):
  ∃ e:Nat→Bool,(∀ j (h1:j < vs.toArray.size) (h2:j < us.toArray.size),EqAt A.in1 s vs.toArray[j] us.toArray[j] (e j))∧((List.range (min vs.toArray.size us.toArray.size)).all e && vs.toArray.size==us.toArray.size)=r:=by
 have H:∀ (j:Nat) x y,xs[j]? =some x→ys[j]? =some y→beqK f x y=some ((xs[j]?.bind fun x=>ys[j]?.bind fun y=>beqK f x y).getD false):=fun j x y g1 g2=>by
  rw [g1]
  show beqK f x y=some ((ys[j]?.bind fun y=>beqK f x y).getD false)
  rw [g2]
  refine oE (beqK_tot f (hx x (Qx g1)) (hy y (Qx g2))) fun z hz=> ?_
  refine (?_:_=some ((beqK f x y).getD false));rw [hz];rfl
 have e:=eqL_all xs ys r H h
 rw [hr.length,hr'.length] at e
 refine ⟨_,fun j h1 h2=> ?_,e⟩
 have g1:xs[j]? =some (xs[j]'(hr.length ▸ h1)):=Qu _
 have g2:ys[j]? =some (ys[j]'(hr'.length ▸ h2)):=Qu _
 refine oEA (hr.get g1) fun v1 e1 r1=> ?_
 refine oEA (hr'.get g2) fun v2 e2 r2=> ?_
 have a1:vs.toArray[j]=v1:=Qz ((Qu (l:=vs) h1).symm.trans e1)
 have a2:us.toArray[j]=v2:=Qz ((Qu (l:=us) h2).symm.trans e2)
 rw [a1,a2]
 exact step (hx _ (Qx g1)) (hy _ (Qx g2)) (H j _ _ g1 g2) r1 r2
theorem eqAt_K {s:Shared} (P:Pins W s.heap) (f:Nat):∀ {A:Around} {a b:AV} {va vb:Value} {r:Bool},isKeyF f a=true→isKeyF f b=true→beqK f a b=some r→VRel G W a va→VRel G W b vb→A.units+f≤cLine→EqAt A s va vb r:=by
 induction f with
 | zero=>intro A a b va vb r ha;exact fat ha
 | succ f ih=>
  intro A a b va vb r ha hb h ra rb hu
  have hu':A.units < cLine:=Wx (Nat.lt_add_of_pos_right (Nat.succ_pos f)) hu
  cases a with
  | int i=>
   refine vInt ra fun t=> ?_
   cases b with
   | int j=>
    refine vInt rb fun u=> ?_;refine e1 h ?_
    rw [Vd]
    exact EqAt.int_int i t j u
   | str j=>refine vStr rb fun u=> ?_;refine e1 h ?_;exact EqAt.int_str _ _ _ _
   | tup ys=>
    refine e1 h ?_
    (refine oEEAA (P.tup rb) fun x vs q2z ht uu=> ?_;subst q2z)
    exact EqAt.int_tuple _ _ ht hu'
   | _=>exact fat hb
  | str i=>
   refine vStr ra fun t=> ?_
   cases b with
   | int j=>refine vInt rb fun u=> ?_;refine e1 h ?_;exact EqAt.str_int _ _ _ _
   | str j=>
    refine vStr rb fun u=> ?_;refine e1 h ?_
    rw [Vb]
    have e:decide (i=j)=(mkS i==mkS j):=by
     by_cases q:i=j
     ·simp [q]
     ·have:mkS i≠mkS j:=fun z=>q (mkS_inj z)
      simp [q,this]
    rw [e];exact EqAt.str_str _ _ _ _
   | tup ys=>
    refine e1 h ?_
    (refine oEEAA (P.tup rb) fun x vs q2z ht uu=> ?_;subst q2z)
    exact EqAt.str_tuple _ _ ht hu'
   | _=>exact fat hb
  | tup xs=>
   (refine oEEAA (P.tup ra) fun x vs q2z ht hr=> ?_;subst q2z)
   cases b with
   | int j=>refine vInt rb fun u=> ?_;refine e1 h ?_;exact EqAt.tuple_int _ _ ht hu'
   | str j=>refine vStr rb fun u=> ?_;refine e1 h ?_;exact EqAt.tuple_str _ _ ht hu'
   | tup ys=>
    have rb':=rb
    (refine oEEAA (P.tup rb) fun y us q2z ht' hr'=> ?_;subst q2z)
    by_cases hxy:x=y
    ·subst hxy
     have e:AV.tup xs=AV.tup ys:=key_same P (f+1) ha hb ra rb'
     rw [(beqK_eq (f+1) h).mpr e]
     exact EqAt.same _
    ·refine oEA (tup_K (A:=A) (fun k1 k2 k3 k4 k5=>ih k1 k2 k3 k4 k5 (by simp;lia)) (Vg ha) (Vg hb) h hr hr') fun e he q=> ?_
     rw [←q]
     exact EqAt.of_refs hxy (RcAt.tuples ht ht' hu' he)
   | _=>exact fat hb
  | _=>exact fat ha
end
section
variable {G:Gl} {W:Wd} {E:Value→Shared→Prop} {s:Shared}
theorem pyHash_K (P:Pins W s.heap) (f:Nat):∀ {A:Around} {tk:Nat} {a:AV} {v:Value} {Q:Int→Shared→Prop},isKeyF f a=true→VRel G W a v→A.units+f≤cLine→(∀ t,Q (hashOf G.w f a) { s with toks:=t })→
  wpAny (model G.prog G.w) A (pyHash v) Q E { s with toks:=tk }:=by
 induction f with
 | zero=>intro A tk a v Q ha;exact fat ha
 | succ f ih=>
  intro A tk a v Q ha ra hu h
  cases a with
  | int i=>refine vInt ra fun uu=> ?_;exact wpAny_pyHash_int (h _)
  | str i=>refine vStr ra fun uu=> ?_;exact wpAny_pyHash_str (h _)
  | tup xs=>
   have hx:=Vg ha
   (refine oEEAA (P.tup ra) fun x vs q2z ht hr=> ?_;subst q2z)
   refine oEAAE ht fun o ho hc n hd=> ?_
   have hT:Shared.TypeIs { s with toks:=tk } (.ref x) "tuple" :=⟨o,ho,hc⟩
   have hu':A.units < cLine:=Wx (Nat.lt_add_of_pos_right (Nat.succ_pos f)) hu
   refine Qq (wpAny_cRoomFor_or (.inr hu') ?_)
   refine Qq (wpAny_specialOf hT F.slot_tuple_hash.lookup ?_)
   rw [if_neg (by rw [beq_builtin_none];exact Wv)]
   refine Qq (wpAny_specialOf hT F.slot_tuple_hash.lookup ?_)
   refine Qq (wpAny_callSpecialIfBoundUnlessNone?_slot hT F.slot_tuple_hash (Qf F.slot_tuple_hash hT F.entry_tuple_hash ?_ (F.args_tuple_hash_1 _)))
   refine (?_:wpAny _ _ (Builtin.Tuple.tupleItemsOf (.ref x) >>=_) _ _ _)
   refine Qq (wpAny_tupleItemsOf ho hd ?_)
   refine Qq ?_
   rw [←Array.forIn_toList]
   refine wpAny_forIn_list _
    (fun rest (b:Array Int) s'=>∃ done left,xs=done++left∧VRels G W left rest∧b.toList=done.map (hashOf G.w f)∧∃ t,s'={ s with toks:=t })
    _ ?_ ?_ _ _ ⟨[],xs,rfl,hr,rfl,tk,rfl⟩
   ·intro y rest b s' q
    refine Yg q fun done left q1 hl hb q2=> ?_
    refine oE q2 fun t q2=> ?_
    subst q1 q2
    cases hl with
    | @cons k u ks us h1 hl'=>
     refine Qq (ih (hx _ (by simp)) h1 (by simp;lia) fun t'=> ?_)
     exact Qw ⟨done++ [k],ks,by simp,hl',by simp [hb],_,rfl⟩
   ·intro b s' q
    refine Yg q fun done left q1 hl hb q2=> ?_
    refine oE q2 fun t q2=> ?_
    subst q1 q2
    cases hl
    dsimp only
    rw [hb]
    rw [List.append_nil] at h
    have h':∀ t,Q (reduceHash (Builtin.Tuple.tupleHashOf (done.map (hashOf G.w f)))) { s with toks:=t }:=h
    refine wpAny_ret_mkInt ?_
    refine (?_:wpAny _ _ (if (decide (-(2:Int) ^ 63≤Builtin.Tuple.tupleHashOf (done.map (hashOf G.w f))) && decide (Builtin.Tuple.tupleHashOf (done.map (hashOf G.w f)) < 2 ^ 63))=true then _ else _) Q E _)
    unfold reduceHash at h'
    by_cases hr':(decide (-(2:Int) ^ 63≤Builtin.Tuple.tupleHashOf (done.map (hashOf G.w f))) && decide (Builtin.Tuple.tupleHashOf (done.map (hashOf G.w f)) < 2 ^ 63))=true
    ·rw [if_pos hr']
     rw [if_pos hr'] at h'
     exact Qw (h' _)
    ·rw [if_neg hr']
     rw [if_neg hr'] at h'
     exact Qq (wpAny_rule (Qw (h' _)))
  | _=>exact fat ha
theorem VRels.mem {xs:List AV} {vs:List Value} (h:VRels G W xs vs) {v:Value} (hv:v∈vs):∃ x∈xs,VRel G W x v:=by
 induction xs generalizing vs with
 | nil=>(have e0:=isN h;clear h;subst e0);simp at hv
 | cons x xs ih=>
  cases h with
  | cons a b=>
   rcases Zq hv with rfl | hv
   ·exact ⟨_,.head _,a⟩
   ·refine oEA (ih b hv) fun y hy r=> ?_;exact ⟨y,.tail _ hy,r⟩
theorem quiet_K (P:Pins W s.heap) (f:Nat):∀ {A:Around} {n:Nat} {a:AV} {v:Value} {Q:Bool→Shared→Prop},f≤n→isKeyF f a=true→VRel G W a v→Q true s→
  wpAny (model G.prog G.w) A (eqIsQuiet n v) Q E s:=by
 induction f with
 | zero=>intro A n a v Q hn ha;exact fat ha
 | succ f ih=>
  intro A n a v Q hn ha ra h
  cases n with
  | zero=>exact absurd hn (Nat.not_succ_le_zero f)
  | succ n=>
  cases a with
  | int i=>refine vInt ra fun uu=> ?_;rw [eqIsQuiet_byValue _ rfl];exact Qw h
  | str i=>refine vStr ra fun uu=> ?_;rw [eqIsQuiet_byValue _ rfl];exact Qw h
  | tup xs=>
   have hx:=Vg ha
   (refine oEEAA (P.tup ra) fun x vs q2z ht hr=> ?_;subst q2z)
   refine oEAAE ht fun o ho hc m hd=> ?_
   have hT:s.TypeIs (.ref x) "tuple" :=⟨o,ho,hc⟩
   unfold eqIsQuiet
   refine Qq (wpAny_specialOf hT F.slot_tuple_eq.lookup ?_)
   refine Qq (wpAny_isInstance hT isSubtype_tuple_tuple ?_)
   refine Qq (wpAny_seqItems ho hd ?_)
   refine Qq ?_
   rw [←Array.forIn_toList]
   refine wpAny_forIn_list _ (fun rest r s'=>r.1=none∧s'=s∧∀ v∈rest,∃ y∈xs,VRel G W y v) _ ?_ ?_ _ _ ⟨rfl,rfl,fun v hv=> ?_⟩
   ·intro v rest r s' q
    refine oAA q fun hr' hs' hall=> ?_
    refine oEA (hall v Qk) fun y hy hv=> ?_
    rw [hs']
    refine Qq (ih (Nat.le_of_succ_le_succ hn) (hx y hy) hv ?_)
    exact Qw ⟨rfl,rfl,fun u hu'=>hall u (Qj _ hu')⟩
   ·intro r s' q
    refine oAA q fun hr' hs' uu=> ?_
    cases r with
    | mk r1 r2=>
    subst hs'
    replace hr':r1=none:=hr'
    subst hr'
    exact Qw h
   ·exact hr.mem (by simpa using hv)
  | _=>exact fat ha
theorem tableMay_K {A:Around} (P:Pins W s.heap) {a:AV} {v:Value} {stored:List Value} {Q:Bool→Shared→Prop} (ha:isKey a=true) (ra:VRel G W a v)
  (hst:∀ v∈stored,∃ y,isKey y=true∧VRel G W y v) (h:Q false s):wpAny (model G.prog G.w) A (tableMayTell v stored) Q E s:=by
 unfold tableMayTell
 split
 ·exact Qw h
 ·refine Qq (quiet_K P 6 (by lia) ha ra ?_)
  refine Qq ?_
  refine wpAny_forIn_list _ (fun rest r s'=>s'=s∧r=(none,())∧∀ v∈rest,∃ y,isKey y=true∧VRel G W y v) _ ?_ ?_ _ _ ⟨rfl,rfl,hst⟩
  ·rintro x rest r s' ⟨rfl,rfl,hr⟩
   refine oEA (hr x Qk) fun y hy hv=> ?_
   refine Qq (quiet_K P 6 (by lia) hy hv ?_)
   exact Qw ⟨rfl,rfl,fun v hv=>hr v (Qj _ hv)⟩
  ·rintro r s' ⟨rfl,rfl,_⟩
   exact Qw h
end
section
variable {G:Gl} {W:Wd} {E:Value→Shared→Prop} {s:Shared}
theorem Ents.length {es:List (AV × AV)} {ds:List DictEntry} (h:Ents G W es ds):ds.length=es.length:=by
 induction h with
 | nil=>rfl
 | cons _ _ _ ih=>simp [ih]
theorem Ents.at {es:List (AV × AV)} {ds:List DictEntry} (h:Ents G W es ds):∀ {j:Nat} {d:DictEntry},ds[j]? =some d→∃ k x,es[j]? =some (k,x)∧d.hash=hashK G.w k∧VRel G W k d.key∧VRel G W x d.val:=by
 induction h with
 | nil=>intro j d e;exact nos e
 | cons hk hv _ ih=>
  intro j d e
  cases j with
  | zero=>simp at e;subst e;exact ⟨_,_,rfl,rfl,hk,hv⟩
  | succ j=>simp at e;simpa using ih e
theorem Ents.to {es:List (AV × AV)} {ds:List DictEntry} (h:Ents G W es ds) {j:Nat} {k x:AV} (e:es[j]? =some (k,x)):∃ kv v,ds[j]? =some ⟨hashK G.w k,kv,v⟩∧VRel G W k kv∧VRel G W x v:=by
 walk_at "e G W es ds|h|j k x|e"
 have hl:=h.length
 have hj:j < es.length:=(Wn e).1
 have g:ds[j]? =some ds[j]:=Qu (by omega)
 refine Yg (h.at g) fun k' x' e' h1 h2 h3=> ?_
 rw [e] at e';((refine oA (i2 e') fun q0z q1z=> ?_;subst q0z q1z))
 exact ⟨_,_,by rw [g,←h1],h2,h3⟩
theorem Ents.snoc {es:List (AV × AV)} {ds:List DictEntry} (h:Ents G W es ds) {k x:AV} {kv v:Value} (hk:VRel G W k kv) (hv:VRel G W x v):Ents G W (es++ [(k,x)]) (ds++ [⟨hashK G.w k,kv,v⟩]):=by
 induction h with
 | nil=>exact .cons hk hv .nil
 | cons a b _ ih=>exact .cons a b ih
theorem Ents.put {es:List (AV × AV)} {ds:List DictEntry} (h:Ents G W es ds):∀ {i:Nat} {k y x:AV} {v:Value},es[i]? =some (k,y)→VRel G W x v→Ents G W (es.set i (k,x)) (ds.modify i fun e=> { e with val:=v }):=by
 induction h with
 | nil=>intro i k y x v e;exact nos e
 | cons a b r ih=>
  intro i k y x v e hv
  cases i with
  | zero=>simp at e;(refine oA e fun q0z q1z=> ?_;clear e;subst q0z q1z);simpa using Ents.cons a hv r
  | succ i=>simp at e;simpa using Ents.cons a b (ih e hv)
theorem nodup_at {α β:Type} {es:List (α × β)} (hn:(es.map (·.1)).Nodup) {i j:Nat} {k:α} {x y:β} (hi:es[i]? =some (k,x)) (hj:es[j]? =some (k,y)):i=j:=by
 have hi':(es.map (·.1))[i]? =some k:=by rw [List.getElem?_map,hi];rfl
 have hj':(es.map (·.1))[j]? =some k:=by rw [List.getElem?_map,hj];rfl
 exact (List.getElem?_inj (Wn hi').1 hn).mp (hi'.trans hj'.symm)
theorem isS {x z:Str} {t:Tok}:(Value.str z t).isStr x=true ↔ z=x:=by simp [Value.isStr]
theorem exact_str {v:Value} (h:isExactStrKey v=true):∃ z t,v= .str z t:=by cases v <;> first | exact ⟨_,_,rfl⟩ | exact fat h
theorem str_tok {k:AV} {x z:Str} {t t':Tok} (hk:isKey k=true) (h:VRel G W k (.str x t)) (e:z=x):VRel G W k (.str z t'):=by
 subst e
 cases h with
 | str s t'=>exact .str s _
 | glo _=>exact fat hk
 | sym _=>exact fat hk
 | act _=>exact fat hk
 | junk _=>exact fat hk
theorem str_same {k:AV} {x z:Str} {t t':Tok} (hk:isKey k=true) (h:VRel G W k (.str z t')) (h2:VRel G W k (.str x t)):z=x:=by
 cases h with
 | str s t'=>cases h2;rfl
 | glo _=>exact fat hk
 | sym _=>exact fat hk
 | act _=>exact fat hk
 | junk _=>exact fat hk
set_option backward.match.sparseCases true in
theorem dictFind_K {A:Around} (P:Pins W s.heap) {d:Addr} {es:List (AV × AV)} {ds:List DictEntry} {ep:Nat} {o:Obj} {k:AV} {kv:Value} {Q:Option Nat→Shared→Prop} (hu:A.units+6≤cLine)
  (ho:s.heap.get? d=some o) (hd:o.data= .dict ds.toArray ep) (he:Ents G W es ds) (hk:∀ e∈es,isKey e.1=true) (hn:(es.map (·.1)).Nodup) (hkk:isKey k=true) (hkv:VRel G W k kv)
  (hnone:(∀ (j:Nat) (x:AV),es[j]? ≠some (k,x))→Q none s) (hsome:∀ (j:Nat) (x:AV),es[j]? =some (k,x)→Q (some j) s):
  wpAny (model G.prog G.w) A (dictFind d kv (hashK G.w k)) Q E s:=by
 walk_at "e G W E s A|P|d es ds ep o k kv Q|hu ho hd he hk hn hkk hkv hnone hsome"
 have hl:=he.length
 have at_:∀ (i:Nat),i < ds.toArray.size→∃ k' x kv' v,es[i]? =some (k',x)∧ds.toArray[i]? =some ⟨hashK G.w k',kv',v⟩∧isKey k'=true∧VRel G W k' kv':=by
  intro i hi
  have hi':i < es.length:=hl ▸ (show i < ds.length from hi)
  have g:es[i]? =some (es[i].1,es[i].2):=Qu hi'
  refine oEEAA (he.to g) fun kv' v h1 h2 h3=> ?_
  exact ⟨_,_,kv',v,g,List.getElem?_toArray.trans h1,hk _ (List.getElem_mem hi'),h2⟩
 have eqb:∀ {k':AV} {kv':Value} {R:Bool→Shared→Prop},isKey k'=true→VRel G W k' kv'→(∀ r:Bool,(r=true ↔ k'=k)→R r s)→wpAny (model G.prog G.w) A (eqBool kv' kv) R E s:=by
  intro k' kv' R h1 h2 h3
  refine oE (eqK_tot h1 hkk) fun r hr=> ?_
  exact eqAt_K P 6 h1 hkk hr h2 hkv hu _ _ _ _ (h3 r (eqK_eq hr))
 have haskey:∀ (j:Nat) (x:AV),es[j]? =some (k,x)→((ds.toArray[j]?.map (·.hash))==some (hashK G.w k))=true:=by
  intro j x hj
  refine oEEA (he.to hj) fun kv' v h1 uu=> ?_
  have:ds.toArray[j]? =some ⟨hashK G.w k,kv',v⟩:=List.getElem?_toArray.trans h1
  rw [this];simp
 have inRange:∀ (j:Nat) (x:AV),es[j]? =some (k,x)→j < ds.toArray.size:=by
  intro j x hj
  exact (hl.symm ▸ (Wn hj).1:j < ds.length)
 have hst:∀ v∈(placesWithHash ds.toArray.size (fun i=>ds.toArray[i]?.map (·.hash)) (hashK G.w k)).filterMap (fun i=>ds.toArray[i]?.map (·.key)),∃ y,isKey y=true∧VRel G W y v:=by
  intro v hv
  refine oEA (List.mem_filterMap.mp hv) fun i uu hi=> ?_
  cases hei:ds.toArray[i]? with
  | none=>rw [hei] at hi;exact nos hi
  | some e=>
   rw [hei] at hi
   obtain rfl:e.key=v:=by simpa using hi
   refine Yg (he.at (List.getElem?_toArray.symm.trans hei)) fun k' x h1 h2 h3 h4=> ?_
   exact ⟨k',hk _ (Qx h1),h3⟩
 have plain:wpAny (model G.prog G.w) A (dictWalkPlain d kv (hashK G.w k) ds.toArray (placesWithHash ds.toArray.size (fun i=>ds.toArray[i]?.map (·.hash)) (hashK G.w k))) Q E s:=by
  refine Qq ?_
  refine wpAny_forIn_list _
   (fun rest b s'=>s'=s∧b=(none,())∧∃ i,rest=(List.range' i (ds.toArray.size - i)).filter (fun i=>(ds.toArray[i]?.map (·.hash))==some (hashK G.w k))∧i≤ds.toArray.size∧
    ∀ (j:Nat) (x:AV),j < i→es[j]? ≠some (k,x)) _ ?_ ?_ _ _
   ⟨rfl,rfl,0,by rw [placesWithHash,List.range_eq_range',Nat.sub_zero],Nat.zero_le _,fun uu uu h=>absurd h (Nat.not_lt_zero _)⟩
  ·rintro x rest b s' ⟨hs',rfl,i,hr,hi,hno⟩
   rw [hs']
   refine oAAAA (filter_range'_cons _ _ _ _ _ hr.symm) fun hix hxn hpx hskip hrest=> ?_
   have hlt:x < ds.toArray.size:=Nat.add_sub_cancel' hi ▸ hxn
   refine oEEEEAAA (at_ x hlt) fun k' y kv' v' g1 g2 g3 g4=> ?_
   have hnext:¬k'=k→∃ i,rest=(List.range' i (ds.toArray.size - i)).filter (fun i=>(ds.toArray[i]?.map (·.hash))==some (hashK G.w k))∧i≤ds.toArray.size∧
     ∀ (j:Nat) (x:AV),j < i→es[j]? ≠some (k,x):=fun hne=>
    ⟨x+1,by rw [hrest,Nat.add_sub_cancel' hi],hlt,fun j y' hji hj=>by
     rcases Nat.lt_or_ge j i with h | h
     ·exact hno j y' h hj
     ·rcases Nat.lt_or_ge j x with h' | h'
      ·have:=hskip j h h'
       rw [haskey j y' hj] at this;exact taf this
      ·have:j=x:=Nat.le_antisymm (Nat.le_of_lt_succ hji) h'
       exact hne (i2 (g1.symm.trans (this ▸ hj))).1⟩
   rw [g2]
   dsimp only
   by_cases hh:(hashK G.w k'==hashK G.w k)=true
   ·rw [if_pos hh]
    refine Qq (wpAny_dictEpoch ho hd (Qq (eqb g3 g4 fun r hr=>Qq (wpAny_dictEpoch ho hd ?_))))
    rw [if_neg (by simp)]
    cases r with
    | true=>
     exact Qq (wpAny_rule (Qw (Qw (hsome x _ (hr.mp rfl ▸ g1)))))
    | false=>
     have e:¬k'=k:=fun q=>by have:=hr.mpr q;exact fat this
     exact Qq (wpAny_rule (Qw ⟨rfl,rfl,hnext e⟩))
   ·rw [if_neg hh]
    refine Qw ⟨rfl,rfl,hnext ?_⟩
    intro q
    rw [q] at hh;simp at hh
  ·rintro b s' ⟨hs',rfl,i,hr,hi,hno⟩
   rw [hs']
   refine Qw (hnone fun j x hj=> ?_)
   rcases Nat.lt_or_ge j i with h | h
   ·exact hno j x h hj
   ·have h1:=inRange j x hj
    have:=List.filter_eq_nil_iff.mp hr.symm j (List.mem_range'_1.mpr ⟨h,(Nat.add_sub_cancel' hi).symm ▸ h1⟩)
    exact this (haskey j x hj)
 have deep:∀ {T:Bool},T=false→wpAny (model G.prog G.w) A (do
   let mut hit:Option Nat:=none
   for i in (placesWithHash ds.toArray.size (fun i=>ds.toArray[i]?.map (·.hash)) (hashK G.w k)) do
    if let some e:=ds.toArray[i]? then
     if e.hash==hashK G.w k then
      let before ←dictEpoch d (keyPart kv)
      let same ←eqBool e.key kv
      if (←dictEpoch d (keyPart kv)) !=before then unsupported "dict.changed-during-lookup"
      if same then
       if hit.isSome then unsupported "dict.find:order-among-keys-of-one-hash"
       rule "dict.find.hit"
       if ((placesWithHash ds.toArray.size (fun i=>ds.toArray[i]?.map (·.hash)) (hashK G.w k)).filterMap (fun i=>ds.toArray[i]?.map (·.key))).length < 2 then return some i
       hit:=some i
      else
       rule "dict.find.same-hash-other-key"
       if T && !(0≤hashK G.w k && hashK G.w k < 32) then unsupported "dict.find:asked-again-or-not-hangs-on-the-table"
   return hit) Q E s:=by
  rintro T rfl
  refine Qq ?_
  refine wpAny_forIn_list _
   (fun rest b s'=>s'=s∧∃ i hit,b=(none,hit)∧rest=(List.range' i (ds.toArray.size - i)).filter (fun i=>(ds.toArray[i]?.map (·.hash))==some (hashK G.w k))∧i≤ds.toArray.size∧
    ((hit=none∧∀ (j:Nat) (x:AV),j < i→es[j]? ≠some (k,x))∨∃ (j:Nat) (x:AV),hit=some j∧j < i∧es[j]? =some (k,x))) _ ?_ ?_ _ _
   ⟨rfl,0,none,rfl,by rw [placesWithHash,List.range_eq_range',Nat.sub_zero],Nat.zero_le _,.inl ⟨rfl,fun uu uu h=>absurd h (Nat.not_lt_zero _)⟩⟩
  ·rintro x rest b s' ⟨hs',i,hit,rfl,hr,hi,hH⟩
   rw [hs']
   refine oAAAA (filter_range'_cons _ _ _ _ _ hr.symm) fun hix hxn hpx hskip hrest=> ?_
   have hlt:x < ds.toArray.size:=Nat.add_sub_cancel' hi ▸ hxn
   have hrest':rest=(List.range' (x+1) (ds.toArray.size - (x+1))).filter (fun i=>(ds.toArray[i]?.map (·.hash))==some (hashK G.w k)):=by rw [hrest,Nat.add_sub_cancel' hi]
   refine oEEEEAAA (at_ x hlt) fun k' y kv' v' g1 g2 g3 g4=> ?_
   have hHx:(hit=none∧∀ (j:Nat) (p:AV),j < x→es[j]? ≠some (k,p))∨∃ (j:Nat) (p:AV),hit=some j∧j < x∧es[j]? =some (k,p):=by
    rcases hH with ⟨h0,hno⟩ | ⟨j,p,h1,hji,hj⟩
    ·refine .inl ⟨h0,fun j p hjx hj=> ?_⟩
     rcases Nat.lt_or_ge j i with h | h
     ·exact hno j p h hj
     ·have:=hskip j h hjx
      rw [haskey j p hj] at this
      exact absurd this (by decide)
    ·exact .inr ⟨j,p,h1,Wx hji hix,hj⟩
   have hstay:¬k'=k→((hit=none∧∀ (j:Nat) (p:AV),j < x+1→es[j]? ≠some (k,p))∨∃ (j:Nat) (p:AV),hit=some j∧j < x+1∧es[j]? =some (k,p)):=by
    intro hne
    rcases hHx with ⟨h0,hno⟩ | ⟨j,p,h1,hjx,hj⟩
    ·refine .inl ⟨h0,fun j p hjx hj=> ?_⟩
     rcases Nat.lt_or_ge j x with h | h
     ·exact hno j p h hj
     ·have hjx':j=x:=Nat.le_antisymm (Nat.le_of_lt_succ hjx) h
      exact hne (i2 (g1.symm.trans (hjx' ▸ hj))).1
    ·exact .inr ⟨j,p,h1,Nat.lt_succ_of_lt hjx,hj⟩
   rw [g2]
   dsimp only
   by_cases hh:(hashK G.w k'==hashK G.w k)=true
   ·rw [if_pos hh]
    refine Qq (wpAny_dictEpoch ho hd (Qq (eqb g3 g4 fun r hr=>Qq (wpAny_dictEpoch ho hd ?_))))
    rw [if_neg (by simp)]
    cases r with
    | true=>
     have g1:es[x]? =some (k,y):=hr.mp rfl ▸ g1
     rcases hHx with ⟨rfl,_⟩ | ⟨j,p,_,hjx,hj⟩
     ·first | rw [if_pos rfl] | skip
      first | refine Qq (Qw ?_) | skip
      refine Qq (wpAny_rule ?_)
      split
      ·exact Qw (Qw (hsome x _ g1))
      ·exact Qw ⟨rfl,x+1,some x,rfl,hrest',hlt,.inr ⟨x,_,rfl,Wz x,g1⟩⟩
     ·exact absurd (nodup_at hn hj g1) (Nat.ne_of_lt hjx)
    | false=>
     have e:¬k'=k:=fun q=>by have:=hr.mpr q;exact fat this
     simp only [Bool.false_eq_true,if_false]
     refine Qq (wpAny_rule ?_)
     first | rw [if_neg (by simp)] | skip
     first
      | exact Qw ⟨rfl,x+1,hit,rfl,hrest',hlt,hstay e⟩
      | exact Qq (Qw (Qw ⟨rfl,x+1,hit,rfl,hrest',hlt,hstay e⟩))
   ·rw [if_neg hh]
    refine Qw ⟨rfl,x+1,hit,rfl,hrest',hlt,hstay ?_⟩
    intro q
    rw [q] at hh;simp at hh
  ·rintro b s' ⟨hs',i,hit,rfl,hr,hi,hH⟩
   rw [hs']
   rcases hH with ⟨rfl,hno⟩ | ⟨j,p,rfl,_,hj⟩
   ·refine Qw (hnone fun j p hj=> ?_)
    rcases Nat.lt_or_ge j i with h | h
    ·exact hno j p h hj
    ·have h1:=inRange j p hj
     have:=List.filter_eq_nil_iff.mp hr.symm j (List.mem_range'_1.mpr ⟨h,(Nat.add_sub_cancel' hi).symm ▸ h1⟩)
     exact this (haskey j p hj)
   ·exact Qw (hsome j p hj)
 have byStr:∀ {x:Str} {t:Tok},kv= .str x t→(ds.toArray.all fun e=>isExactStrKey e.key)=true→wpAny (model G.prog G.w) A (foundByValue d kv ds.toArray x) Q E s:=by
  intro x t hx hall
  have is_:∀ (i:Nat) (e:DictEntry),ds[i]? =some e→∀ k' y,es[i]? =some (k',y)→(e.key.isStr x=true ↔ k'=k):=by
   intro i e hi k' y hy
   refine Yg (he.at hi) fun k'' y' h1 uu h3 uu=> ?_
   have h3:VRel G W k' e.key:=(i2 (h1.symm.trans hy)).1 ▸ h3
   have hm:isExactStrKey e.key=true:=by
    have:=Zz (by simpa using hall) e (Qx hi)
    simpa using this
   have k1:=hk _ (Qx hy)
   refine oEE (exact_str hm) fun z tz hz=> ?_
   rw [hz] at h3 ⊢
   rw [hx] at hkv
   refine ⟨fun q=>key_same P 6 k1 hkk h3 (str_tok hkk hkv (isS.mp q)),fun q=>isS.mpr (str_same hkk (q ▸ h3) hkv)⟩
  unfold foundByValue
  cases hf:ds.toArray.findIdx? (fun e=>e.key.isStr x) with
  | none=>
   refine Qw (hnone fun j y hj=> ?_)
   have h1:=inRange j y hj
   have:=Array.findIdx?_eq_none_iff.mp hf (ds.toArray[j]) (Array.getElem_mem h1)
   have e:=(is_ j ds.toArray[j] (by simp) k y hj).mpr rfl
   have z:ds.toArray[j].key.isStr x=false:=by simpa using this
   rw [e] at z;exact taf z
  | some i=>
   obtain ⟨hlt,hi,_⟩:=Array.findIdx?_eq_some_iff_getElem.mp hf
   refine oEEEEAAA (at_ i hlt) fun k' y kv' v' g1 g2 g3 g4=> ?_
   have hkk':k'=k:=(is_ i ds.toArray[i] (by simp) k' y g1).mp hi
   dsimp only
   rw [g2]
   refine Qq (wpAny_dictEpoch ho hd (Qq (eqb g3 g4 fun r hr=>Qq (wpAny_dictEpoch ho hd ?_))))
   rw [if_neg (by simp),hr.mpr hkk']
   exact Qq (wpAny_rule (Qw (hsome i _ (hkk' ▸ g1))))
 unfold dictFind
 try with_reducible refine Qg ?_
 refine Qq (wpAny_dictEntries ho hd ?_)
 have rest:wpAny (model G.prog G.w) A (do
   let places:=placesWithHash ds.toArray.size (fun i=>ds.toArray[i]?.map (·.hash)) (hashK G.w k)
   let stored:=places.filterMap fun i=>ds.toArray[i]?.map (·.key)
   if (kv::stored).all carriedByValue then return ←dictWalkPlain d kv (hashK G.w k) ds.toArray places
   if let .ref _:=kv then
    if ds.toArray.any fun e=>e.key==kv && e.hash !=(hashK G.w k) then unsupported "dict.find:a-stored-key-whose-hash-has-changed"
   let tells ←if stored==[kv] then pure false else tableMayTell kv stored
   if tells && stored.length ≥ 2 then unsupported "dict.find:order-among-keys-of-one-hash"
   let mut hit:Option Nat:=none
   for i in places do
    if let some e:=ds.toArray[i]? then
     if e.hash==hashK G.w k then
      let before ←dictEpoch d (keyPart kv)
      let same ←eqBool e.key kv
      if (←dictEpoch d (keyPart kv)) !=before then unsupported "dict.changed-during-lookup"
      if same then
       if hit.isSome then unsupported "dict.find:order-among-keys-of-one-hash"
       rule "dict.find.hit"
       if stored.length < 2 then return some i
       hit:=some i
      else
       rule "dict.find.same-hash-other-key"
       if tells && !(0≤hashK G.w k && hashK G.w k < 32) then unsupported "dict.find:asked-again-or-not-hangs-on-the-table"
   return hit) Q E s:=by
  by_cases hc:((kv::(placesWithHash ds.toArray.size (fun i=>ds.toArray[i]?.map (·.hash)) (hashK G.w k)).filterMap fun i=>ds.toArray[i]?.map (·.key)).all carriedByValue)=true
  ·rw [if_pos hc]
   exact plain
  ·rw [if_neg hc]
   have tail:wpAny (model G.prog G.w) A (do
     let tells ←if ((placesWithHash ds.toArray.size (fun i=>ds.toArray[i]?.map (·.hash)) (hashK G.w k)).filterMap fun i=>ds.toArray[i]?.map (·.key))==[kv] then pure false else tableMayTell kv ((placesWithHash ds.toArray.size (fun i=>ds.toArray[i]?.map (·.hash)) (hashK G.w k)).filterMap fun i=>ds.toArray[i]?.map (·.key))
     if tells && ((placesWithHash ds.toArray.size (fun i=>ds.toArray[i]?.map (·.hash)) (hashK G.w k)).filterMap fun i=>ds.toArray[i]?.map (·.key)).length ≥ 2 then unsupported "dict.find:order-among-keys-of-one-hash"
     let mut hit:Option Nat:=none
     for i in (placesWithHash ds.toArray.size (fun i=>ds.toArray[i]?.map (·.hash)) (hashK G.w k)) do
      if let some e:=ds.toArray[i]? then
       if e.hash==hashK G.w k then
        let before ←dictEpoch d (keyPart kv)
        let same ←eqBool e.key kv
        if (←dictEpoch d (keyPart kv)) !=before then unsupported "dict.changed-during-lookup"
        if same then
         if hit.isSome then unsupported "dict.find:order-among-keys-of-one-hash"
         rule "dict.find.hit"
         if ((placesWithHash ds.toArray.size (fun i=>ds.toArray[i]?.map (·.hash)) (hashK G.w k)).filterMap fun i=>ds.toArray[i]?.map (·.key)).length < 2 then return some i
         hit:=some i
        else
         rule "dict.find.same-hash-other-key"
         if tells && !(0≤hashK G.w k && hashK G.w k < 32) then unsupported "dict.find:asked-again-or-not-hangs-on-the-table"
     return hit) Q E s:=by
    have d0:=deep (T:=false) rfl
    by_cases hone:(((placesWithHash ds.toArray.size (fun i=>ds.toArray[i]?.map (·.hash)) (hashK G.w k)).filterMap fun i=>ds.toArray[i]?.map (·.key))==[kv])=true
    ·rw [if_pos hone]
     refine Qq (Qw ?_)
     exact d0
    ·rw [if_neg hone]
     refine Qq (tableMay_K P hkk hkv hst ?_)
     exact d0
   cases kv with
   | ref a=>
    dsimp only
    rw [if_neg]
    ·exact tail
    ·rw [←Array.any_toList,List.any_eq_true]
     rintro ⟨e,hin,hc⟩
     refine oE (List.mem_iff_getElem?.mp hin) fun i hi=> ?_
     refine Yg (he.at (by simpa using hi)) fun k' x h1 h2 h3 uu=> ?_
     simp only [Bool.and_eq_true,beq_iff_eq,bne_iff_ne,ne_eq] at hc
     refine oA hc fun hxa hne=> ?_
     rw [hxa] at h3
     have:=key_same P 6 (hk _ (Qx h1)) hkk h3 hkv
     exact hne (by rw [h2];exact congrArg (hashK G.w) this)
   | _=>exact tail
 cases kv with
 | str x t=>
  dsimp only
  by_cases hall:(ds.toArray.all fun e=>isExactStrKey e.key)=true
  ·rw [if_pos hall];exact byStr rfl hall
  ·rw [if_neg hall];exact rest
 | _=>exact rest
end
noncomputable def Found (k:AV) (es:List (AV × AV)):Option AV→Prop
 | some x=>∃ j:Nat,es[j]? =some (k,x)
 | none=>∀ (j:Nat) (x:AV),es[j]? ≠some (k,x)
noncomputable def PutR (k v:AV) (es es':List (AV × AV)):Bool→Prop
 | true=>(∀ (j:Nat) (x:AV),es[j]? ≠some (k,x))∧es'=es++ [(k,v)]
 | false=>∃ (j:Nat) (x:AV),es[j]? =some (k,x)∧es'=es.set j (k,v)
theorem findGo_spec {k:AV} {es:List (AV × AV)}:∀ {r:Option AV},findGo k es=some r→Found k es r:=by
 induction es with
 | nil=>intro r h;refine e1 h ?_;exact fun j x q=>nos (List.getElem?_nil.symm.trans q)
 | cons e es ih=>
  intro r h
  refine zOb h (fun h q=> ?_) fun h q=> ?_
  ·refine e1 h ?_
   exact ⟨0,by rw [←(eqK_eq q).mp rfl];rfl⟩
  ·have ne:¬e.1=k:=fun z=>fat ((eqK_eq q).mpr z)
   cases r with
   | some x=>refine oE (ih h) fun j hj=> ?_;exact ⟨j+1,hj⟩
   | none=>
    intro j x hj
    cases j with
    | zero=>exact ne (congrArg Prod.fst (Qz hj))
    | succ j=>exact ih h j x hj
theorem find_spec {k:AV} {es:List (AV × AV)} {r:Option AV} (h:find k es=some r):isKey k=true∧Found k es r:=by
 walk_at "m m12 h h q"
 exact ⟨q,findGo_spec h⟩
theorem storeGo_spec {k v:AV} {es:List (AV × AV)}:∀ {es':List (AV × AV)} {b:Bool},storeGo k v es=some (b,es')→PutR k v es es' b:=by
 induction es with
 | nil=>intro es' b h;refine e2 h ?_;exact ⟨fun j x q=>nos (List.getElem?_nil.symm.trans q),rfl⟩
 | cons e es ih=>
  intro es' b h
  refine zOb h (fun h q=> ?_) fun h q=> ?_
  ·refine e2 h ?_
   have:=(eqK_eq q).mp rfl
   exact ⟨0,e.2,by rw [←this];rfl,by rw [←this];rfl⟩
  ·have ne:¬e.1=k:=fun z=>fat ((eqK_eq q).mpr z)
   refine m49 h fun b' r h hr=> ?_
   refine e2 h ?_
   cases b' with
   | true=>
    refine oA (ih hr) fun h1 q=> ?_
    refine ⟨fun j x hj=> ?_,congrArg _ q⟩
    cases j with
    | zero=>exact ne (congrArg Prod.fst (Qz hj))
    | succ j=>exact h1 j x hj
   | false=>
    refine oEEA (ih hr) fun j x h1 q=> ?_
    exact ⟨j+1,x,h1,congrArg _ q⟩
theorem store_spec {k v:AV} {es es':List (AV × AV)} {b:Bool} (h:store k v es=some (b,es')):isKey k=true∧
  PutR k v es es' b:=by
 walk_at "m m12 h h q"
 exact ⟨q,storeGo_spec h⟩
structure GOk (G:Gl):Prop where
 kin:G.K.In G.B
 len:∀ c Cl a,G.P.cls c=some Cl→Cl.len=none→G.gad c=some (.ref a)→findIn G.K (.ref a) "__bool__" =some none∧findIn G.K (.ref a) "__len__" =some none
 sys:∃ o,G.B.get? sysModules=some o
 way:∀ k v,isWay k=true→G.rho k v→∃ x t,v= .str (mkS x) t∧(x=[108,101,102,116]∨x=[114,105,103,104,116]∨x=[110,111,110,97,115,115,111,99])
 nal:∃ a n,G.gad aliasId=some (.ref a)∧G.B.get? a=some (dictOf [] n)∧(a==sysModules)=false
section
variable {G:Gl} {C:Cx} {W:Wd} {l:Tr AV} {s:St} {S:Shared} {E:Value→Shared→Prop} {A:Around}
theorem Inv.pins (I:Inv G C W l s S):Pins W S.heap:=fun p hp=>(I.pin p hp).1
theorem Inv.notSys (O:GOk G) (I:Inv G C W l s S) {n:Nat} {a:Addr} (h:W.σ[n]? =some a):(a==sysModules)=false:=by
 have:=(I.fresh a (Qx h)).1
 refine oE (O.sys) fun o ho=> ?_
 cases q:a==sysModules with
 | false=>rfl
 | true=>rw [eq_of_beq q,ho] at this;exact son this
structure DictAtI (G:Gl) (W:Wd) (S:Shared) (a:Addr) (es:List (AV × AV)) (ep:Nat) (ds:List DictEntry):Prop where
 get:S.heap.get? a=some (dictOf ds ep)
 ents:Ents G W es ds
 keys:∀ e∈es,isKey e.1=true
 nodup:(es.map (·.1)).Nodup
theorem DictAtI.typeIs {a:Addr} {es:List (AV × AV)} {ep:Nat} {ds:List DictEntry} (D:DictAtI G W S a es ep ds):S.TypeIs (.ref a) "dict" :=⟨_,D.get,rfl⟩
theorem Inv.dict (I:Inv G C W l s S) {n:Nat} {a:Addr} {es:List (AV × AV)} {ep:Nat} (e:s.h.get n=some (.dict es ep)) (ha:W.σ[n]? =some a):∃ ds,DictAtI G W S a es ep ds:=by
 obtain ⟨co,h1,ds,rfl,h2,h3,h4⟩:=I.at e ha
 exact ⟨ds,h1,h2,h3,h4⟩
theorem dictFind_D (P:Pins W S.heap) {a:Addr} {es:List (AV × AV)} {ep:Nat} {ds:List DictEntry} {k:AV} {kv:Value} {tk:Nat} {Q:Option Nat→Shared→Prop} (hu:A.units+6≤cLine)
  (D:DictAtI G W S a es ep ds) (hkk:isKey k=true) (hkv:VRel G W k kv)
  (hnone:(∀ (j:Nat) (x:AV),es[j]? ≠some (k,x))→Q none { S with toks:=tk }) (hsome:∀ (j:Nat) (x:AV),es[j]? =some (k,x)→Q (some j) { S with toks:=tk }):
  wpAny (model G.prog G.w) A (dictFind a kv (hashK G.w k)) Q E { S with toks:=tk }:=
 dictFind_K (s:={ S with toks:=tk }) P hu D.get rfl D.ents D.keys D.nodup hkk hkv hnone hsome
theorem dictGet_D (P:Pins W S.heap) {a:Addr} {es:List (AV × AV)} {ep:Nat} {ds:List DictEntry} {k:AV} {kv:Value} {r:Option AV} {Q:Option Value→Shared→Prop} (hu:A.units+6≤cLine)
  (D:DictAtI G W S a es ep ds) (hf:find k es=some r) (hkv:VRel G W k kv)
  (h:∀ tk,match r with | some x=>∀ v,VRel G W x v→Q (some v) { S with toks:=tk } | none=>Q none { S with toks:=tk }):
  wpAny (model G.prog G.w) A (dictGet a kv) Q E S:=by
 walk_at "e G W S E A|P|a es ep ds k kv r Q|hu D hf hkv h"
 refine oA (find_spec hf) fun hkk hs=> ?_
 unfold dictGet
 try with_reducible refine Qg ?_
 refine Qq (pyHash_K (s:=S) (tk:=S.toks) P 6 hkk hkv hu fun tk=>Qq (dictFind_D P hu D hkk hkv (fun hno=> ?_) fun j x hj=> ?_))
 ·cases r with
  | some x=>refine oE hs fun j hj=> ?_;exact absurd hj (hno j x)
  | none=>exact Qw (h tk)
 ·cases r with
  | none=>exact absurd hj (hs j x)
  | some y=>
   refine oE hs fun i hi=> ?_
   have:=nodup_at D.nodup hi hj
   subst this
   rw [hj] at hi;cases hi
   refine oEEAA (D.ents.to hj) fun kv' v e1 uu e3=> ?_
   refine Qq (wpAny_dictEntries (s:={ S with toks:=tk }) (es:=ds.toArray) (ep:=ep) D.get rfl ?_)
   have:ds.toArray[i]? =some ⟨hashK G.w k,kv',v⟩:=by simpa using e1
   rw [this]
   exact Qw (h tk v e3)
theorem getItem_D (P:Pins W S.heap) {a:Addr} {es:List (AV × AV)} {ep:Nat} {ds:List DictEntry} {k x:AV} {kv:Value} {Q:Value→Shared→Prop} (hu:A.units+7≤cLine)
  (D:DictAtI G W S a es ep ds) (hf:find k es=some (some x)) (hkv:VRel G W k kv) (h:∀ tk v,VRel G W x v→Q v { S with toks:=tk }):
  wpAny (model G.prog G.w) A (getItem (.ref a) kv) Q E S:=by
 unfold getItem
 try with_reducible refine Qg ?_
 refine Qq (wpAny_sequenceKey D.typeIs (by decide) ?_)
 refine Qq (Qb (name:=Str.ofString "__getitem__") D.typeIs slot_dict_getitem
  (Qf slot_dict_getitem D.typeIs entry_dict_getitem ?_ (args_dict_getitem _ _)))
 refine (?_:wpAny _ _ (dictGet a kv >>=_) _ _ S)
 refine Qq (dictGet_D P (by simp;lia) D hf hkv fun tk v hv=> ?_)
 exact Qw ⟨v,rfl,Qw (h tk v hv)⟩
theorem contains_D (P:Pins W S.heap) {a:Addr} {es:List (AV × AV)} {ep:Nat} {ds:List DictEntry} {k:AV} {kv:Value} {r:Option AV} {Q:Bool→Shared→Prop} (hu:A.units+7≤cLine) (hsys:(a==sysModules)=false)
  (D:DictAtI G W S a es ep ds) (hf:find k es=some r) (hkv:VRel G W k kv) (h:∀ tk,Q r.isSome { S with toks:=tk }):
  wpAny (model G.prog G.w) A (contains (.ref a) kv) Q E S:=by
 walk_at "e G W S E A|P|a es ep ds k kv r Q|hu hsys D hf hkv h"
 unfold contains
 try with_reducible refine Qg ?_
 refine Qq (wpAny_specialOf D.typeIs slot_dict_contains.lookup ?_)
 rw [if_neg (by rw [beq_builtin_none];exact Wv)]
 refine Qq (wpAny_callSpecialUnlessNone?_slot (name:=Str.ofString "__contains__") D.typeIs slot_dict_contains
  (Qf slot_dict_contains D.typeIs entry_dict_contains ?_ (args_dict_contains _ _)))
 refine (?_:wpAny _ _ (dictGet a kv >>=_) _ _ S)
 refine Qq (dictGet_D P (by simp;lia) D hf hkv fun tk=> ?_)
 cases r with
 | some x=>
  intro v hv
  exact Qw ⟨_,rfl,wpAny_truthy_bool (h tk)⟩
 | none=>
  exact Qq (wpAny_pendingKey_other hsys (Qw ⟨_,rfl,wpAny_truthy_bool (h tk)⟩))
theorem dictOf_mapDict (ds:List DictEntry) (ep:Nat) (f:Array DictEntry→Array DictEntry):Obj.mapDict f (dictOf ds ep)={ cls:= .type "dict",data:= .dict (f ds.toArray) ep }:=rfl
theorem Xy (ds:List DictEntry) (ep:Nat) (f:Array DictEntry→Array DictEntry):Obj.mapDictKeys f (dictOf ds ep)={ cls:= .type "dict",data:= .dict (f ds.toArray) (ep+1) }:=rfl
noncomputable def stored (es':List (AV × AV)) (b:Bool) (ep:Nat):AO:= .dict es' (if b then ep+1 else ep)
noncomputable def PutO (G:Gl) (W:Wd) (k:AV) (kv v:Value) (es es':List (AV × AV)) (ep:Nat) (ds:List DictEntry):Bool→Prop
 | true=>OObj G W (.dict es' (ep+1)) (dictOf (ds++ [⟨hashK G.w k,kv,v⟩]) (ep+1))
 | false=>∃ (j:Nat) (y:AV),es[j]? =some (k,y)∧OObj G W (.dict es' ep) (dictOf (ds.modify j fun e=> { e with val:=v }) ep)
set_option tactic.hygienic true in
theorem oobj_store {a:Addr} {es es':List (AV × AV)} {ep:Nat} {ds:List DictEntry} {k x:AV} {kv v:Value} {b:Bool} (D:DictAtI G W S a es ep ds) (hst:store k x es=some (b,es')) (hkv:VRel G W k kv) (hv:VRel G W x v):
  PutO G W k kv v es es' ep ds b:=by
 refine oA (store_spec hst) fun hkk hs=> ?_
 cases b with
 | true=>
  (refine oA hs fun hno q1z=> ?_;clear hs;subst q1z)
  refine ⟨_,rfl,D.ents.snoc hkv hv,fun e he=> ?_,?_⟩
  ·rcases Zx he with q | q
   ·exact D.keys e q
   ·rw [Zw q];exact hkk
  ·rw [List.map_append,List.nodup_append]
   refine ⟨D.nodup,by simp,fun y hy z hz q=> ?_⟩
   simp at hz
   (refine oEA (List.mem_map.mp hy) fun e he q2z=> ?_;subst q2z)
   refine oE (List.mem_iff_getElem?.mp he) fun j hj=> ?_
   exact hno j e.2 (by rw [hj,←hz,←q])
 | false=>
  (refine oEEA hs fun j y hj q3z=> ?_;clear hs;subst q3z)
  refine ⟨j,y,hj,_,rfl,D.ents.put hj hv,fun e he=> ?_,?_⟩
  ·rcases List.mem_or_eq_of_mem_set he with q | rfl
   ·exact D.keys e q
   ·exact hkk
  ·rw [List.map_set]
   have:(es.map (·.1))[j]? =some k:=by rw [List.getElem?_map,hj];rfl
   have e:(es.map (·.1)).set j k=es.map (·.1):=by
    apply List.ext_getElem?
    intro i
    rw [List.getElem?_set]
    split
    ·rename_i q;subst q
     have lt:=(Wn this).1
     simp only [lt,if_true]
     exact this.symm
    ·rfl
   rw [e];exact D.nodup
theorem dictSet_D (P:Pins W S.heap) {a:Addr} {es es':List (AV × AV)} {ep:Nat} {ds:List DictEntry} {k x:AV} {kv v:Value} {b:Bool} {Q:Unit→Shared→Prop} (hu:A.units+6≤cLine)
  (D:DictAtI G W S a es ep ds) (hst:store k x es=some (b,es')) (hsm:b=true→es'.length≤4001) (hkv:VRel G W k kv) (hv:VRel G W x v)
  (h:∀ tk h' co',Heap.SameBut a S.heap h'→h'.get? a=some co'→OObj G W (stored es' b ep) co'→Q () { S with heap:=h',toks:=tk }):
  wpAny (model G.prog G.w) A (dictSet a kv v) Q E S:=by
 walk_at "e G W S E A|P|a es es' ep ds k x kv v b Q|hu D hst hsm hkv hv h"
 have ob:=oobj_store D hst hkv hv
 refine oA (store_spec hst) fun hkk hs=> ?_
 have hl:=D.ents.length
 unfold dictSet
 try with_reducible refine Qg ?_
 refine Qq (pyHash_K (s:=S) (tk:=S.toks) P 6 hkk hkv hu fun tk=> ?_)
 unfold dictSetHashed
 try with_reducible refine Qg ?_
 refine Qq (dictFind_D P hu D hkk hkv (fun hno=> ?_) fun j y hj=> ?_)
 ·cases b with
  | false=>refine oEEA hs fun j y hj uu=> ?_;exact absurd hj (hno j y)
  | true=>
   have hz:ds.toArray.size≤sizeLine:=by
    (refine oA hs fun uu q1z=> ?_;clear hs;subst q1z)
    have:=hsm rfl
    simp at this
    rw [sizeLine_eq]
    simp;lia
   have ob':OObj G W (stored es' true ep) (dictOf (ds++ [⟨hashK G.w k,kv,v⟩]) (ep+1)):=ob
   refine Qq (wpAny_rule (wpAny_updateDictKeys (hz:=hz) (s:={ S with toks:=tk }) (es:=ds.toArray) (ep:=ep) D.get rfl (h tk _ _ (Wu ..) ?_ ob')))
   rw [Wg _ D.get (by rw [Xy];rfl),Xy]
   simp [hashK]
 ·cases b with
  | true=>exact absurd hj (hs.1 j y)
  | false=>
   refine oEEA ob fun i z hi ob=> ?_
   have:=nodup_at D.nodup hi hj
   subst this
   refine Qq (wpAny_rule (Qq (wpAny_updateDict (s:={ S with toks:=tk }) (es:=ds.toArray) (ep:=ep) D.get rfl (wpAny_point (h tk _ _ (Wu ..) ?_ ob)))))
   rw [Wg _ D.get (by rw [dictOf_mapDict];rfl),dictOf_mapDict]
   simp
theorem setItem_D (P:Pins W S.heap) {a:Addr} {es es':List (AV × AV)} {ep:Nat} {ds:List DictEntry} {k x:AV} {kv v:Value} {b:Bool} {Q:Unit→Shared→Prop} (hu:A.units+7≤cLine)
  (D:DictAtI G W S a es ep ds) (hst:store k x es=some (b,es')) (hsm:b=true→es'.length≤4001) (hkv:VRel G W k kv) (hv:VRel G W x v)
  (h:∀ tk h' co',Heap.SameBut a S.heap h'→h'.get? a=some co'→OObj G W (stored es' b ep) co'→Q () { S with heap:=h',toks:=tk }):
  wpAny (model G.prog G.w) A (setItem (.ref a) kv v) Q E S:=by
 unfold setItem
 try with_reducible refine Qg ?_
 refine Qq (wpAny_sequenceKey D.typeIs (by decide) ?_)
 refine Qq (Qb (name:=Str.ofString "__setitem__") D.typeIs slot_dict_setitem
  (Qf slot_dict_setitem D.typeIs entry_dict_setitem ?_ (args_dict_setitem _ _ _)))
 refine Qq (wpAny_notOrdered_dict D.typeIs ?_)
 refine (?_:wpAny _ _ (dictSet a kv v >>=_) _ _ S)
 exact Qq (dictSet_D P (by simp;lia) D hst hsm hkv hv fun tk h' co' h1 h2 h3=>Qw ⟨.none,rfl,Qw (h tk h' co' h1 h2 h3)⟩)
end
theorem blt_eq (m n:Nat):Nat.blt m n=decide (m < n):=by
 cases h:Nat.blt m n with
 | true=>simp [PySem.W.Z.blt_iff.mp h]
 | false=>
  have:¬m < n:=fun q=>by rw [PySem.W.Z.blt_iff.mpr q] at h;exact taf h
  simp [this]
theorem ble_eq (m n:Nat):Nat.ble m n=decide (m≤n):=by
 cases h:Nat.ble m n with
 | true=>simp [PySem.W.Z.ble_iff.mp h]
 | false=>
  have:¬m≤n:=fun q=>by rw [PySem.W.Z.ble_iff.mpr q] at h;exact taf h
  simp [this]
theorem Zf {α:Type} {xs:List α} (h:small xs=true):xs.length≤4000:=by
 unfold small at h
 rw [ble_eq,Zd] at h
 simpa using h
set_option tactic.hygienic true in
theorem place_spec {i:Int} {n p:Nat} (h:place i n=some p):n≤4000∧((0≤i∧i=p)∨(i < 0∧i+n=p∧p < n)):=by
 unfold place at h
 rw [ble_eq] at h
 walk_at "m m12 h h q"
 refine ⟨by simpa using q,?_⟩
 split at h
 ·refine e1 h ?_;left;simp
 ·rename_i k
  rw [blt_eq] at h
  walk_at "m m12 h h q2"
  refine e1 h ?_
  have:k < n:=by simpa using q2
  right;exact ⟨Int.negSucc_lt_zero k,Int.subNatNat_of_le this,Nat.sub_lt (Nat.lt_of_le_of_lt (Nat.zero_le _) this) (Nat.succ_pos k)⟩
theorem place_seqIndex {i:Int} {n p:Nat} (h:place i n=some p) (hp:p < n):seqIndex? i n=some p:=by
 refine oA (place_spec h) fun uu q=> ?_
 unfold seqIndex?
 rcases q with ⟨h0,rfl⟩ | ⟨h0,h1,h2⟩
 ·have:¬((p:Int) < 0):=by lia
  simp [this,hp]
 ·simp only [h0,if_true,h1]
  simp [h2]
section
variable {G:Gl} {C:Cx} {W:Wd} {l:Tr AV} {s:St} {S:Shared} {E:Value→Shared→Prop} {A:Around}
theorem Inv.list (I:Inv G C W l s S) {n:Nat} {a:Addr} {xs:List AV} (e:s.h.get n=some (.list xs)) (ha:W.σ[n]? =some a):
  ∃ vs m,S.heap.get? a=some { cls:= .type "list",data:= .seq vs.toArray m }∧VRels G W xs vs∧S.heap.IsList a vs.toArray:=by
 obtain ⟨co,h1,vs,m,rfl,h2⟩:=I.at e ha
 exact ⟨vs,m,h1,h2,_,h1,rfl,m,rfl⟩
set_option tactic.hygienic true in
theorem getItem_sound (I:Inv G C W l s S) (hu:A.units+7≤cLine) {v i r:AV} {vc ic:Value} {Q:Value→Shared→Prop} (h:getI v i s=some r) (hv:VRel G W v vc) (hi:VRel G W i ic)
  (k:∀ tk rc,VRel G W r rc→Q rc { S with toks:=tk }):wpAny (model G.prog G.w) A (getItem vc ic) Q E S:=by
 walk_at "e G C W l s S E A|I hu|v i r vc ic Q|h hv hi k"
 unfold getI at h
 split at h
 ·rename_i n
  refine vRef hv fun _ ha=> ?_
  split at h
  ·rename_i xs e
   refine oEEAA (I.list e ha) fun vs m hg hr hl=> ?_
   walk_at "M m173 h j h"
   refine vInt hi fun _=> ?_
   walk_at "m m14 h p h hp"
   rw [Yb] at h
   have hlen:=hr.length
   refine oEA (hr.get h) fun x hx hxr=> ?_
   have hlt:p < vs.length:=(Wn hx).1
   refine oA (place_spec hp) fun hn q=> ?_
   rw [Zd] at hn q
   rcases q with ⟨h0,rfl⟩ | ⟨h0,h1,h2⟩
   ·exact wpAny_getItem_list hl h0 (by lia) (by simpa using hx) (k _ x hxr)
   ·refine wpAny_getItem_list_neg hl h0 (by simp;lia) (by lia) ?_ (k _ x hxr)
    have:(j+(vs.toArray.size:Nat)).toNat=p:=by simp;lia
    rw [this];simpa using hx
  ·rename_i es ep e
   refine oE (I.dict e ha) fun ds D=> ?_
   walk_at "m m68 h r' h hf"
   subst h
   exact getItem_D I.pins hu D hf hi (fun tk v hv=>k tk v hv)
  ·exact nos h
 ·rename_i xs
  (refine oEEAA (I.pins.tup hv) fun a vs q2z ht hr=> ?_;subst q2z)
  walk_at "M m173 h j h"
  refine vInt hi fun _=> ?_
  walk_at "m m14 h p h hp"
  rw [Yb] at h
  have hlen:=hr.length
  refine oEA (hr.get h) fun x hx hxr=> ?_
  have hlt:p < vs.length:=(Wn hx).1
  refine oA (place_spec hp) fun hn q=> ?_
  rw [Zd] at hn q hp
  refine PyProof.Rows.getItem_tuple ht (by lia) (by lia) (j:=p) ?_ (by simpa using hx) (k _ x hxr)
  have:vs.toArray.size=xs.length:=by simp [hlen]
  rw [this]
  exact place_seqIndex hp (by lia)
 ·rename_i xs
  refine vStr hv fun _=> ?_
  walk_at "M m173 h j h"
  refine vInt hi fun _=> ?_
  walk_at "m m14 h p h hp"
  rw [Yb] at h
  walk_at "m m14 h c h hc"
  (obtain rfl:=Qz h)
  have hlt:p < xs.length:=(Wn hc).1
  refine oA (place_spec hp) fun hn q=> ?_
  rw [Zd] at hn q hp
  refine PyProof.Rows.getItem_str (c:=c) (by simp;lia) ?_ (k _ _ (.str [c] _))
  have:(mkS xs).length=xs.length:=by simp [mkS,Str.length]
  rw [this,place_seqIndex hp hlt]
  simpa [mkS] using hc
 ·exact nos h
theorem setItem_list_plain {l:Addr} {items:Array Value} {m:Nat} {k:Int} {t:Tok} {v:Value} {Q:Unit→Shared→Prop} (hg:S.heap.get? l=some { cls:= .type "list",data:= .seq items m }) (h0:0≤k) (hfit:k < 2 ^ 63) (hn:k < items.size)
  (hQ:∀ h',h'.get? l=some { cls:= .type "list",data:= .seq (items.setIfInBounds k.toNat v) m }→Heap.SameBut l S.heap h'→Q () { S with heap:=h' }):
  wpAny (model G.prog G.w) A (setItem (.ref l) (.int k t) v) Q E S:=by
 walk_at "e G S E A l items m k t v Q|hg h0 hfit hn hQ"
 have hl:S.heap.IsList l items:=⟨_,hg,rfl,m,rfl⟩
 unfold setItem
 try with_reducible refine Qg ?_
 first | refine Qq (Qw ?_) | skip
 refine Qq (wpAny_sequenceKey hl.typeIs (by decide) ?_)
 refine Qq (Qb (name:=Str.ofString "__setitem__") hl.typeIs slot_list_setitem
  (Qf slot_list_setitem hl.typeIs entry_list_setitem ?_ (args_list_setitem _ _ _)))
 refine (?_:wpAny _ _ (Builtin.List.listSubscript? (.int k t) >>=_) _ _ S)
 refine Qq (wpAny_listSubscript_int (fitsIndex_of h0 hfit) ?_)
 clear hfit
 (refine oE (Int.eq_ofNat_of_zero_le h0) fun j q1z=> ?_;subst q1z)
 have hj:j < items.size:=by lia
 have hx':items[j]? =some items[j]:=Array.getElem?_eq_getElem hj
 refine Qq (Qq (wpAny_seqItemAt hg rfl (Qw ?_)))
 rw [hx']
 have e:Obj.mapSeq (·.setIfInBounds j v) { cls:= .type "list",data:= .seq items m }={ cls:= .type "list",data:= .seq (items.setIfInBounds j v) m }:=by
  simp [Obj.mapSeq]
 have hfin:(S.heap.update l (Obj.mapSeq (·.setIfInBounds j v))).get? l=some { cls:= .type "list",data:= .seq (items.setIfInBounds j v) m }:=by
  rw [Wg _ hg (by rw [e];rfl),e]
 refine Qq (wpAny_setSeqItemAt hg rfl ?_)
 first
  | exact Qq (Qw (Qw ⟨.none,rfl,Qw (hQ _ hfin (Wu ..))⟩))
  | exact Qw ⟨.none,rfl,Qw (hQ _ hfin (Wu ..))⟩
set_option tactic.hygienic true in
theorem Xu (O:GOk G) (I:Inv G C W l s S) (hu:A.units+7≤cLine) {v i x:AV} {s':St} {vc ic xc:Value} {Q:Unit→Shared→Prop} (h:setI v i x s=some s') (hv:VRel G W v vc) (hi:VRel G W i ic) (hx:VRel G W x xc)
  (k:∀ S',Inv G C W l s' S'→Q () S'):wpAny (model G.prog G.w) A (setItem vc ic xc) Q E S:=by
 walk_at "e G C W l s S E A|O I hu|v i x s' vc ic xc Q|h hv hi hx k"
 walk_at "M m174 h n h"
 refine vRef hv fun ad ha=> ?_
 split at h
 ·rename_i xs e
  refine oEEAA (I.list e ha) fun vs m hg hr hl=> ?_
  walk_at "M m34 h p h"
  refine vInt hi fun _=> ?_
  walk_at "m m12 h h hsm"
  have hsm:=Zf hsm
  walk_at "m m13 h xs' h hs'"
  (refine oA (setNth_eq _ _ _ _ hs') fun hlt q1z=> ?_;subst q1z)
  have hlen:=hr.length
  refine setItem_list_plain hg (by simp) (by simp;lia) (by simp;lia) fun h' h1 h2=>k _ (I.upd ha h (fun b o hb e=>(h2.2 b hb).trans e) h1 ⟨vs.set p xc,m,by simp,hr.set p hx⟩)
 ·rename_i es ep e
  refine oE (I.dict e ha) fun ds D=> ?_
  have upd:∀ {b:Bool} {es':List (AV × AV)},store i x es=some (b,es')→(b=true→es'.length≤4001)→s.upd n (stored es' b ep)=some s'→wpAny (model G.prog G.w) A (setItem (.ref ad) ic xc) Q E S:=by
   intro b es' hst hsm hup
   exact setItem_D I.pins hu D hst hsm hi hx fun tk h' co' h1 h2 h3=>k _ (I.upd ha hup (fun b o hb e=>(h1.2 b hb).trans e) h2 h3)
  split at h
  ·rename_i es' hst
   walk_at "m m12 h h hsm"
   rw [Zk] at h
   exact upd hst (fun _=>by have:=Zf hsm;lia) h
  ·rename_i es' hst
   exact upd hst (fun q=>by exact fat q) h
  ·exact nos h
 ·exact nos h
end
theorem memGo_spec {v:AV} {xs:List AV}:∀ {r:Bool},memGo v xs=some r→(∀ x∈xs,isKey x=true)∧(r=true ↔ v∈xs):=by
 induction xs with
 | nil=>intro r h;refine e1 h ?_;exact ⟨fun uu q=>(nomatch q),fun q=>fat q,fun q=>(nomatch q)⟩
 | cons x xs ih=>
  intro r h
  walk_at "m m12 h h hx"
  walk_at "m m20 h b h hb"
  refine oA (ih hb) fun h1 h2=> ?_
  refine ⟨fun y hy=> ?_,?_⟩
  ·rcases Zq hy with rfl | hy
   ·exact hx
   ·exact h1 y hy
  ·refine zOb h (fun h q=> ?_) fun h q=> ?_
   ·refine e1 h ?_
    exact ⟨fun uu=>(eqK_eq q).mp rfl ▸ .head _,fun uu=>rfl⟩
   ·refine e1 h ?_
    rw [h2]
    exact ⟨.tail _,fun z=>(Zq z).resolve_left fun z=>fat ((eqK_eq q).mpr z.symm)⟩
theorem memK_spec {v:AV} {xs:List AV} {r:Bool} (h:memK v xs=some r):isKey v=true∧(∀ x∈xs,isKey x=true)∧(r=true ↔ v∈xs):=by
 walk_at "m m12 h h q"
 exact ⟨q,memGo_spec h⟩
theorem hasStr_spec {s:List Nat} {xs:List AV}:hasStr s xs=true→AV.str s∈xs:=by
 induction xs with
 | nil=>exact fun h=>fat h
 | cons x xs ih=>
  intro h
  cases x with
  | str t=>
   refine zBo h (fun h q=> ?_) fun h q=> .tail _ (ih h)
   rw [Vb,decide_eq_true_eq] at q
   rw [q];exact .head _
  | _=>exact .tail _ (ih h)
theorem allStr_spec {xs:List AV}:allStr xs=true→∀ x∈xs,∃ s,x= .str s:=by
 induction xs with
 | nil=>exact fun uu uu q=>nomatch q
 | cons x xs ih=>
  intro h y hy
  cases x with
  | str t=>
   rcases Zq hy with rfl | hy
   ·exact ⟨_,rfl⟩
   ·exact ih h y hy
  | _=>exact fat h
theorem inStr1_spec (c:Nat) (t:List Nat):inStr1 c t=decide (c∈t):=by
 induction t with
 | nil=>exact (Wk fun q=>nomatch q).symm
 | cons x r ih=>
  refine (?_:(match Nat.beq x c with | true=>true | false=>inStr1 c r)=_)
  rw [Tr.beq_eq,ih]
  by_cases h:x=c
  ·simp [h]
  ·have:¬c=x:=fun q=>h q.symm
   simp [h,this]
section
variable {G:Gl} {C:Cx} {W:Wd} {l:Tr AV} {s:St} {S:Shared} {E:Value→Shared→Prop} {A:Around}
theorem VRels.mem' {xs:List AV} {vs:List Value} (h:VRels G W xs vs) {x:AV} (hx:x∈xs):∃ v∈vs,VRel G W x v:=by
 induction xs generalizing vs with
 | nil=>simp at hx
 | cons y xs ih=>
  cases h with
  | cons a b=>
   rcases Zq hx with rfl | hx
   ·exact ⟨_,.head _,a⟩
   ·refine oEA (ih b hx) fun v hv r=> ?_;exact ⟨v,.tail _ hv,r⟩
open Classical in
theorem inList_K (P:Pins W S.heap) {a:Addr} {xs:List AV} {vs:List Value} {v:AV} {vc:Value} {r:Bool} (hu:A.units+7≤cLine) (hl:S.heap.IsList a vs.toArray) (hr:VRels G W xs vs) (hm:memK v xs=some r) (hv:VRel G W v vc):
  ∃ e:Value→Bool,(∀ y,y∈vs.toArray→EqAt A.in1 S y vc (e y))∧vs.toArray.any e=r:=by
 refine oAA (memK_spec hm) fun h1 h2 h3=> ?_
 refine ⟨fun y=>decide (∃ x,isKey x=true∧VRel G W x y∧x=v),fun y hy=> ?_,?_⟩
 ·refine oEA (hr.mem (by simpa using hy)) fun x hx hxy=> ?_
  refine oE (eqK_tot (h2 x hx) h1) fun q hq=> ?_
  have:=eqAt_K (A:=A.in1) P 6 (h2 x hx) h1 hq hxy hv (by simp;lia)
  have e:q=decide (∃ x,isKey x=true∧VRel G W x y∧x=v):=by
   rw [Bool.eq_iff_iff,decide_eq_true_eq,eqK_eq hq]
   constructor
   ·rintro rfl;exact ⟨_,h2 _ hx,hxy,rfl⟩
   ·rintro ⟨x',k',r',rfl⟩;exact key_same P 6 (h2 x hx) k' hxy r'
  show EqAt A.in1 S y vc (decide _)
  rw [←e];exact this
 ·rw [Bool.eq_iff_iff,h3]
  rw [←Array.any_toList,List.any_eq_true]
  constructor
  ·rintro ⟨y,hy,q⟩
   (refine oEAA (Qd q) fun x uu hxy q3z=> ?_;subst q3z)
   refine oEA (hr.mem (by simpa using hy)) fun x' hx' hxy'=> ?_
   rw [key_same P 6 h1 (h2 x' hx') hxy hxy'];exact hx'
  ·intro hvx
   refine oEA (hr.mem' hvx) fun y hy hxy=> ?_
   exact ⟨y,by simpa using hy,Wj ⟨v,h1,hxy,rfl⟩⟩
theorem way_inList (P:Pins W S.heap) {a:Addr} {xs:List AV} {vs:List Value} {x:List Nat} {t:Tok} (hl:S.heap.IsList a vs.toArray) (hr:VRels G W xs vs) (ha:allStr xs=true) (hx:AV.str x∈xs):
  ∃ e:Value→Bool,(∀ y,y∈vs.toArray→EqAt A.in1 S y (.str (mkS x) t) (e y))∧vs.toArray.any e=true:=by
 refine ⟨fun y=>match y with | .str z _=>z==mkS x | _=>false,fun y hy=> ?_,?_⟩
 ·refine oEA (hr.mem (by simpa using hy)) fun w hw hwy=> ?_
  (refine oE (allStr_spec ha w hw) fun z q1z=> ?_;subst q1z)
  refine vStr hwy fun uu=> ?_
  exact EqAt.str_str _ _ _ _
 ·rw [←Array.any_toList,List.any_eq_true]
  refine oEA (hr.mem' hx) fun y hy hwy=> ?_
  refine ⟨y,by simpa using hy,?_⟩
  refine vStr hwy fun uu=> ?_;simp
theorem w1 {β:Type} {r:β} {P:Prop} {b:AV} {A D:Nat→Option β} {B:List Nat→Option β} (h:(match b with | .ref n=>A n | .str t=>B t | .glo k=>D k | _=>none)=some r) (k1:∀ n,A n=some r→b= .ref n→P) (k2:∀ t,B t=some r→b= .str t→P) (k3:∀ k,D k=some r→b= .glo k→P):P:=by
 cases b <;> first | exact nos h | exact k1 _ h rfl | exact k2 _ h rfl | exact k3 _ h rfl
theorem w2 {β:Type} {r:β} {P:Prop} {x:Option AO} {A D:List AV→Option β} {B:List (AV × AV)→Nat→Option β} (h:(match x with | some (.list n)=>A n | some (.dict t u)=>B t u | some (.set k)=>D k | _=>none)=some r) (k1:∀ n,A n=some r→x=some (.list n)→P) (k2:∀ t u,B t u=some r→x=some (.dict t u)→P) (k3:∀ k,D k=some r→x=some (.set k)→P):P:=by
 cases x with
 | none=>exact nos h
 | some b=>cases b <;> first | exact nos h | exact k1 _ h rfl | exact k2 _ _ h rfl | exact k3 _ h rfl
theorem w3 {β:Type} {r:β} {P:Prop} {b:AV} {A:Nat→Option β} {B:Option β} (h:(match b with | .sym n=>A n | _=>B)=some r) (k1:∀ n,A n=some r→b= .sym n→P) (k2:B=some r→P):P:=by
 cases b <;> first | exact k1 _ h rfl | exact k2 h
theorem w4 {r:Bool} {P:Prop} {x:Option (Option AV)} (h:(match x with | some (some v)=>some true | some none=>some false | none=>none)=some r) (k:∀ q,x=some q→q.isSome=r→P):P:=by
 cases x with
 | none=>exact nos h
 | some q=>cases q <;> exact k _ rfl (Qz h)
theorem w5 {β:Type} {r:β} {P:Prop} {b:AV} {A:Nat→Option β} (h:(match b with | .str [c]=>A c | _=>none)=some r) (k:∀ c,A c=some r→b= .str [c]→P):P:=by
 cases b with
 | str x=>
  cases x with
  | nil=>exact nos h
  | cons c y=>cases y <;> first | exact nos h | exact k _ h rfl
 | _=>exact nos h
theorem within_set (I:Inv G C W l s S) {a:AV} {ac:Value} {n:Nat} {ad:Addr} {xs:List AV} {r:Bool} {Q:Value→Shared→Prop} {neg:Bool} (h:(match a with | .str a0=>memK a xs | _=>none)=some r) (ha:VRel G W a ac) (hn:W.σ[n]? =some ad) (e:s.h.get n=some (.set xs))
  (k:∀ tk,Q (.bool (if neg then !r else r)) { S with toks:=tk }):wpAny (model G.prog G.w) A (compareOp (if neg then .NotIn else .In) ac (.ref ad)) Q E S:=by
 obtain ⟨co,hg,ss,rfl,hs,hsz⟩:=I.at e hn
 walk_at "m m72 h x h qx"
 subst qx
 refine oAA (memK_spec h) fun h1 h2 h3=> ?_
 refine vStr ha fun t=> ?_
 have hkey:(PySem.strKind G.prog G.w).is (mkS x) (.str (mkS x) t)=true:=by
  refine (?_:Value.isStrOf (mkS x) (.str (mkS x) t)=true)
  simp [Value.isStrOf,Value.isStr]
 have hS:=hs.setOf hg (Nat.lt_of_le_of_lt hsz (by decide))
 have e:decide (mkS x∈ss.map mkS)=r:=by
  rw [Bool.eq_iff_iff,decide_eq_true_eq,h3]
  simp only [List.mem_map,AV.str.injEq,exists_eq_right]
  constructor
  ·intro q;refine oEA q fun y hy q=> ?_;rw [←mkS_inj q];exact hy
  ·intro q;exact ⟨x,q,rfl⟩
 cases neg with
 | true=>exact wpAny_notInSet_of (knd:=PySem.strKind G.prog G.w) (k:=mkS x) hkey rfl hS (by rw [e];exact k _)
 | false=>exact wpAny_inSet_of (knd:=PySem.strKind G.prog G.w) (k:=mkS x) hkey rfl hS (by rw [e];exact k _)
theorem within_sound (O:GOk G) (I:Inv G C W l s S) (hu:A.units+7≤cLine) {a b:AV} {ac bc:Value} {r:Bool} {Q:Value→Shared→Prop} {neg:Bool} (hneg:neg=true→(∃ x,b= .str x)→False) (h:within a b s=some r) (ha:VRel G W a ac) (hb:VRel G W b bc)
  (k:∀ tk,Q (.bool (if neg then !r else r)) { S with toks:=tk }):wpAny (model G.prog G.w) A (compareOp (if neg then .NotIn else .In) ac bc) Q E S:=by
 walk_at "e G C W l s S E A|O I hu|a b ac bc r Q neg|hneg h ha hb k"
 have P:=I.pins
 refine w1 h (fun n h q=> ?_) (fun t h q=> ?_) fun kk h q=> ?_
 ·subst q
  refine vRef hb fun ad hn=> ?_
  refine w2 h (fun xs h e=> ?_) (fun es ep h e=> ?_) fun xs h e=>within_set I h ha hn e k
  ·refine oEEAA (I.list e hn) fun vs m hg hr hl=> ?_
   have fin:(∃ f,(∀ y∈vs.toArray,EqAt A.in1 S y ac (f y))∧vs.toArray.any f=r)→wpAny (model G.prog G.w) A (compareOp (if neg then .NotIn else .In) ac (.ref ad)) Q E S:=fun q=>by
    refine oEA q fun f hf hany=> ?_
    cases neg with
    | true=>exact notIn_listAt f hl hf (by rw [hany];exact k _)
    | false=>exact in_listAt f hl hf (by rw [hany];exact k _)
   refine w3 h (fun kk h q=> ?_) fun h=>fin (inList_K (A:=A) P hu hl hr h ha)
   subst q
   walk_at "m m12 h h hw"
   walk_at "m m12 h h hall"
   walk_at "m m12 h h h1"
   walk_at "m m12 h h h2"
   walk_at "m m12 h h h3"
   (obtain rfl:=Qz h)
   have hrho:=vSym ha
   (refine oEEA (O.way kk _ hw hrho) fun x t q2z hx=> ?_;subst q2z)
   have hmem:AV.str x∈xs:=by
    rcases hx with rfl | rfl | rfl
    ·exact hasStr_spec h1
    ·exact hasStr_spec h2
    ·exact hasStr_spec h3
   exact fin (way_inList (A:=A) (t:=t) P hl hr hall hmem)
  ·refine oE (I.dict e hn) fun ds D=> ?_
   refine w4 h fun q hq hqr=> ?_
   cases neg with
   | true=>
    exact Qq (contains_D P hu (I.notSys O hn) D hq ha fun tk=>Qw (by rw [hqr];exact k tk))
   | false=>
    exact Qq (contains_D P hu (I.notSys O hn) D hq ha fun tk=>Qw (by rw [hqr];exact k tk))
 ·subst q
  refine vStr hb fun _=> ?_
  refine w5 h fun c h q=> ?_
  subst q
  (obtain rfl:=Qz h)
  refine vStr ha fun _=> ?_
  cases neg with
  | true=>exact (hneg rfl ⟨_,rfl⟩).elim
  | false=>
   refine PyProof.Rows.in_str ?_
   refine (?_:Q (.bool !(Builtin.Str.occurrences (mkS t) ⟨#[c]⟩ 0 (mkS t).length 1).isEmpty) S)
   rw [StrLaws.found_one]
   have:=k S.toks
   rw [inStr1_spec] at this
   have e:(mkS t).cps.toList=t:=by simp [mkS]
   exact this
 ·subst q
  walk_at "m m12 h h hk"
  walk_at "m m72 h x h qx"
  subst qx
  rw [Tr.beq_eq,decide_eq_true_eq] at hk
  subst hk
  (obtain rfl:=Qz h)
  refine oEEAA (O.nal) fun ad n g1 g2 g3=> ?_
  have hgl:=vGlo hb
  rw [g1] at hgl;refine e1 hgl ?_
  refine vStr ha fun t=> ?_
  have D:DictAtI G W S ad [] n []:=⟨I.base _ _ g2,.nil,fun uu q=>(nomatch q),List.nodup_nil⟩
  have hf:find (.str x) []=some none:=rfl
  cases neg with
  | true=>
   exact Qq (contains_D P hu g3 D hf (.str x t) fun tk=>Qw (k tk))
  | false=>
   exact Qq (contains_D P hu g3 D hf (.str x t) fun tk=>Qw (k tk))
end
section
variable {G:Gl} {C:Cx} {W:Wd} {l:Tr AV} {s:St} {S:Shared} {E:Value→Shared→Prop} {A:Around}
theorem tuples_K (P:Pins W S.heap) {xs ys:List AV} {vs us:List Value} {r:Bool} (hu:A.units+7≤cLine) (hx:isKey (.tup xs)=true) (hy:isKey (.tup ys)=true) (h:eqK (.tup xs) (.tup ys)=some r) (hr:VRels G W xs vs) (hr':VRels G W ys us):
  ∃ e:Nat→Bool,(∀ j (h1:j < vs.toArray.size) (h2:j < us.toArray.size),EqAt A.in1 S vs.toArray[j] us.toArray[j] (e j))∧((List.range (min vs.toArray.size us.toArray.size)).all e && vs.toArray.size==us.toArray.size)=r:=by
 exact tup_K (f:=5) (fun k1 k2 k3 k4 k5=>eqAt_K P 5 k1 k2 k3 k4 k5 (by simp;lia)) (Vg hx) (Vg hy) h hr hr'
theorem decide_beq {a b:Int}:(a==b)=decide (a=b):=by by_cases h:a=b <;> simp [h]
theorem isNo_spec {v:AV} (h:isNo v=true):v= .non:=by cases v <;> first | rfl | exact fat h
@[elab_as_elim] theorem eqLists_inv {xs ys:List AV} {r:Bool} {P:List AV→List AV→Prop} (h:eqLists xs ys=some r) (k0:true=r→P [] []) (k1:true=r→P [.non] [.non]):P xs ys:=by
 cases xs with
 | nil=>
  cases ys with
  | nil=>exact k0 (Qz h)
  | cons=>exact nos h
 | cons x xs=>
  refine m12 h fun h hx=> ?_
  cases xs with
  | cons=>exact nos h
  | nil=>
   cases ys with
   | nil=>exact nos h
   | cons y ys=>
    refine m12 h fun h hy=> ?_
    cases ys with
    | cons=>exact nos h
    | nil=>rw [isNo_spec hx,isNo_spec hy];exact k1 (Qz h)
@[elab_as_elim] theorem eqV_inv {a b:AV} {s:St} {r:Bool} {P:AV→AV→Prop} (h:eqV a b s=some r) (k1:∀ m n xs ys,s.h.get m=some (.list xs)→s.h.get n=some (.list ys)→eqLists xs ys=some r→P (.ref m) (.ref n)) (k2:∀ i j,beqI i j=r→P (.int i) (.int j))
  (k3:∀ x y,beqS x y=r→P (.str x) (.str y)) (k4:∀ xs ys,isKey (.tup xs)=true→isKey (.tup ys)=true→eqK (.tup xs) (.tup ys)=some r→P (.tup xs) (.tup ys)):P a b:=by
 cases a <;> first | exact nos h | skip
 ·cases b <;> first | exact nos h | exact k2 _ _ (Qz h)
 ·cases b <;> first | exact nos h | exact k3 _ _ (Qz h)
 ·cases b <;> first | exact nos h | exact m12 h fun h x=>m12 h fun h y=>k4 _ _ x y h
 ·cases b <;> first | exact nos h | exact m73 h fun xs h x=>m73 h fun ys h y=>k1 _ _ xs ys x y h
theorem emp_inv {l:List AV} {r:Bool} (h:(match l with | []=>some false | _::_=>some true)=some r):(!l.isEmpty)=r:=by cases l <;> exact Qz h
theorem emp_inv2 {l:List (AV × AV)} {r:Bool} (h:(match l with | []=>some false | _::_=>some true)=some r):(!l.isEmpty)=r:=by cases l <;> exact Qz h
@[elab_as_elim] theorem truth_inv {Pz:Pr} {a:AV} {s:St} {r:Bool} {P:AV→Prop} (h:truth Pz a s=some r) (k0:false=r→P .non) (k1:∀ b,b=r→P (.boo b)) (k2:∀ i,(!beqI i 0)=r→P (.int i)) (k3:∀ xs,small xs=true→(!xs.isEmpty)=r→P (.tup xs))
  (k4:∀ n xs,s.h.get n=some (.list xs)→small xs=true→(!xs.isEmpty)=r→P (.ref n)) (k5:∀ n es ep,s.h.get n=some (.dict es ep)→small es=true→(!es.isEmpty)=r→P (.ref n))
  (k6:∀ n c d C,s.h.get n=some (.inst c d)→Pz.cls c=some C→C.len=none→true=r→P (.ref n)):P a:=by
 cases a <;> first | exact nos h | skip
 ·exact k0 (Qz h)
 ·exact k1 _ (Qz h)
 ·exact k2 _ (Qz h)
 ·exact m12 h fun h x=>k3 _ x (emp_inv h)
 ·refine m87 h fun o h e=> ?_
  cases o <;> first | exact nos h | skip
  ·exact m9 h fun C h x=>m90 h fun h y=>k6 _ _ _ C e x y (Qz h)
  ·exact m12 h fun h x=>k4 _ _ e x (emp_inv h)
  ·exact m12 h fun h x=>k5 _ _ _ e x (emp_inv2 h)
theorem eqV_sound (I:Inv G C W l s S) (hu:A.units+7≤cLine) {a b:AV} {ac bc:Value} {r:Bool} {Q:Value→Shared→Prop} {neg:Bool} (h:eqV a b s=some r) (ha:VRel G W a ac) (hb:VRel G W b bc)
  (k:∀ tk,Q (.bool (if neg then !r else r)) { S with toks:=tk }):wpAny (model G.prog G.w) A (compareOp (if neg then .NotEq else .Eq) ac bc) Q E S:=by
 walk_at "e G C W l s S E A|I hu|a b ac bc r Q neg|h ha hb k"
 have P:=I.pins
 have hu':A.units < cLine:=by lia
 revert ha hb
 refine eqV_inv h (fun m n xs ys e1 e2 h ha hb=> ?_) (fun i j h ha hb=> ?_) (fun x y h ha hb=> ?_) fun xs ys hx hy h ha hb=> ?_
 ·revert hb
  refine vRef ha fun ad hm hb=> ?_
  refine vRef hb fun bd hn=> ?_
  refine oEEAA (I.list e1 hm) fun vs uu uu hr hl=> ?_
  refine oEEAA (I.list e2 hn) fun us uu uu hr' hl'=> ?_
  revert hr hr'
  refine eqLists_inv h (fun h hr hr'=> ?_) fun h hr hr'=> ?_ <;> subst h
  ·(have e0:=isN hr;clear hr;subst e0);(have e0:=isN hr';clear hr';subst e0)
   cases neg with
   | true=>exact RcNeAt.lists (e:=fun uu=>true) hl hl' rfl hu' (fun j h1 uu=>by simp at h1) _ _ _ _ (k _)
   | false=>exact RcAt.lists (e:=fun uu=>true) hl hl' rfl hu' (fun j h1 uu=>by simp at h1) _ _ _ _ (k _)
  ·cases hr with | cons a1 b1=>
   (have e0:=isN b1;clear b1;subst e0)
   cases hr' with | cons a2 b2=>
   (have e0:=isN b2;clear b2;subst e0)
   (have e0:=iNon a1;clear a1;subst e0)
   (have e0:=iNon a2;clear a2;subst e0)
   have he:∀ j (h1:j < [Value.none].toArray.size) (h2:j < [Value.none].toArray.size),EqAt A.in1 S [Value.none].toArray[j] [Value.none].toArray[j] true:=fun j h1 h2=>EqAt.same _
   cases neg with
   | true=>exact RcNeAt.lists (e:=fun uu=>true) hl hl' rfl hu' he _ _ _ _ (k _)
   | false=>exact RcAt.lists (e:=fun uu=>true) hl hl' rfl hu' he _ _ _ _ (k _)
 ·subst h
  revert hb
  refine vInt ha fun uu hb=> ?_
  refine vInt hb fun uu=> ?_
  have:=k S.toks
  rw [Vd] at this
  cases neg with
  | true=>
   have e:(i !=j)= !decide (i=j):=by rw [bne,decide_beq]
   exact PyProof.Rows.ne_int (by rw [e];exact this)
  | false=>exact wpAny_eq_int (by rw [decide_beq];exact this)
 ·subst h
  revert hb
  refine vStr ha fun uu hb=> ?_
  refine vStr hb fun uu=> ?_
  have:=k S.toks
  rw [Vb] at this
  have e:(mkS x==mkS y)=decide (x=y):=by
   by_cases q:x=y
   ·simp [q]
   ·have:mkS x≠mkS y:=fun z=>q (mkS_inj z)
    simp [q,this]
  cases neg with
  | true=>exact PyProof.Rows.ne_str (by rw [bne,e];exact this)
  | false=>exact PyProof.Rows.eq_str (by rw [e];exact this)
 ·(refine oEEAA (P.tup ha) fun ad vs q2z ht hr=> ?_;subst q2z)
  (refine oEEAA (P.tup hb) fun bd us q2z ht' hr'=> ?_;subst q2z)
  refine oEA (tuples_K (A:=A) P hu hx hy h hr hr') fun e he hall=> ?_
  cases neg with
  | true=>exact RcNeAt.tuples (e:=e) ht ht' hu' he _ _ _ _ (by rw [hall];exact k _)
  | false=>exact RcAt.tuples (e:=e) ht ht' hu' he _ _ _ _ (by rw [hall];exact k _)
theorem isNone_spec {a:AV} {ac:Value} {r:Bool} (h:isNone a=some r) (ha:VRel G W a ac):plainIs ac .none=true∧(ac==Value.none)=r:=by
 cases ha <;> first | exact nos h | (refine e1 h ?_;exact ⟨rfl,rfl⟩)
set_option tactic.hygienic true in
theorem cmpV_sound (O:GOk G) (I:Inv G C W l s S) (hu:A.units+7≤cLine) {op:CmpOp} {a b:AV} {ac bc:Value} {r:Bool} {Q:Value→Shared→Prop} (h:cmpV op a b s=some r) (ha:VRel G W a ac) (hb:VRel G W b bc)
  (k:∀ tk,Q (.bool r) { S with toks:=tk }):wpAny (model G.prog G.w) A (compareOp op ac bc) Q E S:=by
 walk_at "e G C W l s S E A|O I hu|op a b ac bc r Q|h ha hb k"
 cases op <;> conv at h=>lhs;whnf
 ·exact eqV_sound (neg:=false) I hu h ha hb k
 ·walk_at "m m20 h q h hq"
  (obtain rfl:=Qz h)
  exact eqV_sound (neg:=true) I hu hq ha hb k
 ·walk_at "M m173 h _ h"
  walk_at "M m173 h _ h"
  (obtain rfl:=Qz h);refine vInt ha fun _=> ?_;refine vInt hb fun _=> ?_
  have:=k S.toks
  rw [ltI_eq] at this
  exact PyProof.Rows.lt_int this
 ·walk_at "M m173 h i h"
  walk_at "M m173 h j h"
  (obtain rfl:=Qz h)
  refine vInt ha fun _=> ?_
  refine vInt hb fun _=> ?_
  have:=k S.toks
  rw [ltI_eq] at this
  refine PyProof.Rows.le_int ?_
  have e:decide (i≤j)= !decide (j < i):=by by_cases q:i≤j <;> simp [q] <;> lia
  rw [e];exact this
 ·walk_at "M m173 h _ h"
  walk_at "M m173 h _ h"
  (obtain rfl:=Qz h);refine vInt ha fun _=> ?_;refine vInt hb fun _=> ?_
  have:=k S.toks
  rw [ltI_eq] at this
  exact PyProof.Rows.gt_int this
 ·walk_at "M m173 h i h"
  walk_at "M m173 h j h"
  (obtain rfl:=Qz h)
  refine vInt ha fun _=> ?_
  refine vInt hb fun _=> ?_
  have:=k S.toks
  rw [ltI_eq] at this
  refine PyProof.Rows.ge_int ?_
  have e:decide (j≤i)= !decide (i < j):=by by_cases q:j≤i <;> simp [q] <;> lia
  rw [e];exact this
 ·walk_at "M m75 h h"
  refine vNon hb ?_
  refine oA (isNone_spec h ha) fun h1 h2=> ?_
  exact wpAny_is_plain h1 (by rw [h2];exact k _)
 ·walk_at "M m75 h h"
  walk_at "m m20 h q h hq"
  (obtain rfl:=Qz h)
  refine vNon hb ?_
  refine oA (isNone_spec hq ha) fun h1 h2=> ?_
  exact wpAny_isNot_plain h1 (by rw [h2];exact k _)
 ·exact within_sound (neg:=false) O I hu (fun q=>by exact fat q) h ha hb k
 ·split at h
  ·exact nos h
  ·rename_i hns
   walk_at "m m20 h q h hq"
   (obtain rfl:=Qz h)
   exact within_sound (neg:=true) O I hu (fun _ ⟨x,hx⟩=>hns x hx) hq ha hb k
theorem len_body_D {a:Addr} {es:List (AV × AV)} {ep:Nat} {ds:List DictEntry} {Q:Value→Shared→Prop} (hd:(a==sysModules)=false) (D:DictAtI G W S a es ep ds) (hfit:((ds.length:Nat):Int) < 2 ^ 63)
  (h:Q (.int ds.length (S.toks+1)) { S with toks:=S.toks+1+1 }):wpAny (model G.prog G.w) A (Builtin.«len» ⟨[.ref a],[]⟩) (fun fin s'=>∃ r,fin= .done (.ret r)∧Q r s') E S:=by
 refine Qq (m:=oneArg "len" _) (Qw ?_)
 refine Qq (m:=callSpecial? (.ref a) (Str.ofString "__len__")) (Qb (name:=Str.ofString "__len__") D.typeIs F.slot_dict_len
  (Qf F.slot_dict_len D.typeIs F.entry_dict_len ?_ (F.args_dict_len_1 _)))
 show wpAny _ _ (dictSize a >>=_) _ _ S
 refine Qq (Qq (wpAny_dictEntries D.get rfl (Qw ?_)))
 refine Qq (wpAny_pendingCount_other hd ?_)
 refine wpAny_ret_mkInt ?_
 have e:((ds.toArray.size:Nat):Int)+((0:Nat):Int)=((ds.length:Nat):Int):=by simp
 skip
 refine Qq (Qg (Qw ?_))
 refine Qq (wpAny_letGo ?_)
 rw [if_neg (by lia)]
 rw [if_neg (by lia)]
 exact Qq (wpAny_mkInt (Qw ⟨_,rfl,h⟩))
theorem truthy_D {a:Addr} {es:List (AV × AV)} {ep:Nat} {ds:List DictEntry} {Q:Bool→Shared→Prop} (hd:(a==sysModules)=false) (D:DictAtI G W S a es ep ds) (hfit:((ds.length:Nat):Int) < 2 ^ 63)
  (h:Q (!ds.isEmpty) { S with toks:=S.toks+1+1 }):wpAny (model G.prog G.w) A (truthy (.ref a)) Q E S:=by
 have hne:((ds.length:Int) !=0)= !ds.isEmpty:=by cases ds <;> simp <;> lia
 have key:wpAny (model G.prog G.w) A (runValue (.builtin "len" ⟨[.ref a],[]⟩)) (fun r s'=>r= .int ds.length (S.toks+1)∧Q (!ds.isEmpty) s') E S:=by
  refine wpAny_runValue (codeAny_builtin entry_len ?_)
  rw [Around.under_plainId plain_len _]
  exact wpAny_mono (len_body_D (Q:=fun r s'=>r= .int ds.length (S.toks+1)∧Q (!ds.isEmpty) s') hd D hfit ⟨rfl,h⟩)
   (fun fin s' h'=>by (refine oEA h' fun r q1z hq=> ?_;clear h';subst q1z);exact hq) fun uu uu e=>e
 first
  | refine Qq (wpAny_callSpecial?_none (name:=Str.ofString "__bool__") D.typeIs noBool_dict ?_)
  | refine Qq (Qw (Qq (wpAny_callSpecial?_none (name:=Str.ofString "__bool__") D.typeIs noBool_dict ?_)))
 first
  | refine Qq (wpAny_specialOf (name:=Str.ofString "__len__") D.typeIs F.slot_dict_len.lookup ?_)
  | refine Qq (Qw (Qq (wpAny_specialOf (name:=Str.ofString "__len__") D.typeIs F.slot_dict_len.lookup ?_)))
 first
  | exact Qq (wpAny_mono key (fun r s' h'=>by (refine oA h' fun q0z hq=> ?_;clear h';subst q0z);exact Qw (hne ▸ hq)) fun uu uu e=>e)
  | exact Qq (Qw (Qq (wpAny_mono key (fun r s' h'=>by obtain ⟨rfl,hq⟩:=h';exact Qw (hne ▸ hq)) fun uu uu e=>e)))
theorem truth_sound (O:GOk G) (I:Inv G C W l s S) {a:AV} {ac:Value} {r:Bool} {Q:Bool→Shared→Prop} (h:truth G.P a s=some r) (ha:VRel G W a ac)
  (k:∀ tk,Q r { S with toks:=tk }):wpAny (model G.prog G.w) A (truthy ac) Q E S:=by
 walk_at "e G C W l s S E A|O I|a ac r Q|h ha k"
 revert ha
 refine truth_inv h (fun h ha=> ?_) (fun b h ha=> ?_) (fun i h ha=> ?_) (fun xs h1 h ha=> ?_) (fun n xs e h1 h ha=> ?_) (fun n es ep e h1 h ha=> ?_) fun n c d Cl e hc hlen h ha=> ?_ <;> subst h
 ·refine vNon ha ?_;exact PyProof.Rows.truthy_none (k _)
 ·refine vBoo ha ?_;exact wpAny_truthy_bool (k _)
 ·refine vInt ha fun uu=> ?_
  have:=k S.toks
  rw [Vd] at this
  refine PyProof.Rows.truthy_int ?_
  have e:(i !=0)= !decide (i=0):=by rw [bne,decide_beq]
  rw [e];exact this
 ·have h1:=Zf h1
  (refine oEEAA (I.pins.tup ha) fun ad vs q2z ht hr=> ?_;subst q2z)
  have hl:=hr.length
  refine PyProof.Rows.truthy_tuple ht (by simp;lia) ?_
  have e:(!vs.toArray.isEmpty)= !xs.isEmpty:=by cases hr <;> simp
  rw [e];exact k _
 ·have h1:=Zf h1
  refine vRef ha fun ad hn=> ?_
  refine oEEAA (I.list e hn) fun vs m hg hr hl=> ?_
  have hlen:=hr.length
  refine wpAny_truthy_list hl (by simp;lia) ?_
  have e:(!vs.toArray.isEmpty)= !xs.isEmpty:=by cases hr <;> simp
  rw [e];exact k _
 ·have h1:=Zf h1
  refine vRef ha fun ad hn=> ?_
  refine oE (I.dict e hn) fun ds D=> ?_
  have hlen:=D.ents.length
  refine truthy_D (I.notSys O hn) D (by lia) ?_
  have e:(!ds.isEmpty)= !es.isEmpty:=by cases D.ents <;> rfl
  rw [e];exact k _
 ·refine vRef ha fun ad hn=> ?_
  obtain ⟨co,hg,CA,ad',h1,h2,rfl⟩:=I.at e hn
  refine oA (O.len c Cl CA hc hlen h1) fun o1 o2=> ?_
  have X:G.K.In S.heap:=O.kin.keeps I.base
  refine oAAE (I.fresh ad' (Qx h2)) fun uu uu od hod=> ?_
  have It:PySem.W.InstAt S.heap ad (instObj CA ad') CA (some od):=⟨hg,rfl,rfl,hod⟩
  refine Qq (m:=callSpecial? (.ref ad) (Str.ofString "__bool__")) (Qq (Qq (It.type.here ((looks_findIn X o1).here (Qw ?_)))))
  refine Qq (Qq (It.type.here ((looks_findIn X o2).here ?_)))
  exact Qw (k S.toks)
set_option tactic.hygienic true in
theorem binV_sound {op:PySem.Operator} (I:Inv G C W l s S) {a b:AV} {ac bc:Value} {r:AV} {s':St} {Q:Value→Shared→Prop} (h:binV op a b s=some (r,s')) (ha:VRel G W a ac) (hb:VRel G W b bc)
  (k:∀ tk rc,s'=s→VRel G W r rc→Q rc { S with toks:=tk }):wpAny (model G.prog G.w) A (binaryOp op ac bc) Q E S:=by
 walk_at "e G C W l s S E A op|I|a b ac bc r s' Q|h ha hb k"
 cases op <;> first | exact nos h | skip
 ·cases a <;> first | exact nos h | skip
  ·rename_i i
   walk_at "M m173 h j h"
   rw [Xb] at h
   ((refine oA (i2 h) fun q0z q1z=> ?_;subst q0z q1z));refine vInt ha fun _=> ?_;refine vInt hb fun _=> ?_
   exact PyProof.Rows.add_int (k _ _ rfl (.int _ _))
  ·walk_at "M m173 h _ h"
   ((refine oA (i2 h) fun q0z q1z=> ?_;subst q0z q1z));refine vAin ha fun _ _=> ?_;refine vInt hb fun _=> ?_
   exact PyProof.Rows.add_int (k _ _ rfl (.aint _ _))
 ·cases a <;> first | exact nos h | skip
  ·rename_i i
   walk_at "M m173 h j h"
   rw [Xb] at h
   ((refine oA (i2 h) fun q0z q1z=> ?_;subst q0z q1z));refine vInt ha fun _=> ?_;refine vInt hb fun _=> ?_
   exact PyProof.Rows.sub_int (k _ _ rfl (.int _ _))
  ·walk_at "M m173 h _ h"
   ((refine oA (i2 h) fun q0z q1z=> ?_;subst q0z q1z));refine vAin ha fun _ _=> ?_;refine vInt hb fun _=> ?_
   exact PyProof.Rows.sub_int (k _ _ rfl (.aint _ _))
end
end
section
open PySem PySem.W PyProof.Rows
structure Em where
 ln:Nat→Str
 nm:Nat→Str
 st:Nat→List Nat
 root:List Stmt
noncomputable def stAt:List Stmt→List Nat→Stmt
 | b,[i]=>b[i]?.getD (.Pass default)
 | b,i::f::r=>match b[i]? with
  | some (.If _ x y _)=>stAt (if f=0 then x else y) r
  | some (.While _ x y _)=>stAt (if f=0 then x else y) r
  | some (.For _ _ x y _)=>stAt (if f=0 then x else y) r
  | _=> .Pass default
 | _,_=> .Pass default
mutual
noncomputable def embE (m:Em):CE→Expr
 | .non p=> .Constant .none 0 p
 | .boo b p=> .Constant (.bool b) 0 p
 | .num i p=> .Constant (.int (.ofNat i)) 0 p
 | .str k p=> .Constant (.str (mkS (m.st k))) 0 p
 | .loc x p=> .Name (m.ln x) p
 | .gl x p=> .Name (m.nm x) p
 | .attr e a p=> .Attribute (embE m e) (m.nm a) p
 | .sub e i p=> .Subscript (embE m e) (embE m i) p
 | .slc e lo hi ps p=> .Subscript (embE m e) (.Slice (embO m lo) (embO m hi) none ps) p
 | .cmp l op r p=> .Compare (embE m l) [op] [embE m r] p
 | .and es p=> .BoolOp .And (embEs m es) p
 | .or es p=> .BoolOp .Or (embEs m es) p
 | .not e p=> .UnaryOp .Not (embE m e) p
 | .neg e p=> .UnaryOp .USub (embE m e) p
 | .bin l op r p=> .BinOp (embE m l) op (embE m r) p
 | .ifx t a b p=> .IfExp (embE m t) (embE m a) (embE m b) p
 | .lst es p=> .List (embEs m es) p
 | .tup es p=> .Tuple (embEs m es) 0 p
 | .dic p=> .Dict [] [] p
 | .meth o n args pa p=> .Call (.Attribute (embE m o) (m.nm n) pa) (embEs m args) [] p
 | .calL x pf args p=> .Call (.Name (m.ln x) pf) (embEs m args) [] p
 | .calG f pf args p=> .Call (.Name (m.nm f) pf) (embEs m args) [] p
noncomputable def embEs (m:Em):List CE→List Expr
 | []=>[]
 | e::r=>embE m e::embEs m r
noncomputable def embO (m:Em):Option CE→Option Expr
 | none=>none
 | some e=>some (embE m e)
end
noncomputable def embT (m:Em):Tgt→Expr
 | .one x p=> .Name (m.ln x) p
 | .two xs p=> .Tuple (xs.map fun x=> .Name (m.ln x.1) x.2) 0 p
mutual
noncomputable def embS (m:Em):CS→Stmt
 | .expr e p=> .Expr (embE m e) p
 | .asgN x pt e p=> .Assign [.Name (m.ln x) pt] (embE m e) p
 | .asgA o a pt e p=> .Assign [.Attribute (embE m o) (m.nm a) pt] (embE m e) p
 | .asgS o i pt e p=> .Assign [.Subscript (embE m o) (embE m i) pt] (embE m e) p
 | .asgT xs pt e p=> .Assign [.Tuple (xs.map fun x=> .Name (m.ln x.1) x.2) 0 pt] (embE m e) p
 | .augN x pt op e p=> .AugAssign (.Name (m.ln x) pt) op (embE m e) p
 | .augA o a pt op e p=> .AugAssign (.Attribute (embE m o) (m.nm a) pt) op (embE m e) p
 | .augS o i pt op e p=> .AugAssign (.Subscript (embE m o) (embE m i) pt) op (embE m e) p
 | .ife t b c p=> .If (embE m t) (embSs m b) (embSs m c) p
 | .whl t b c p=> .While (embE m t) (embSs m b) (embSs m c) p
 | .forr t e b c p=> .For (embT m t) (embE m e) (embSs m b) (embSs m c) p
 | .ret e p=> .Return (embO m e) p
 | .brk p=> .Break p
 | .cont p=> .Continue p
 | .pas p=> .Pass p
 | .asrt t path p=>match stAt m.root path with | .Assert _ msg _=> .Assert (embE m t) msg p | s=>s
 | .spec _ path=>stAt m.root path
 | .raw path=>stAt m.root path
noncomputable def embSs (m:Em):List CS→List Stmt
 | []=>[]
 | c::r=>embS m c::embSs m r
end
noncomputable def theNm (k:Nat):Str:=match nameT[k]? with
 | some s=>Str.ofString s
 | none=>mkS [1114112+k]
noncomputable def theLn (l:List String) (k:Nat):Str:=match l[k]? with
 | some s=>Str.ofString s
 | none=>mkS []
noncomputable def mkEm (l:List String) (root:List Stmt):Em:=⟨theLn l,theNm,theStr,root⟩
end
section
open PySem PySem.W PyProof.Rows PySem.SeqAt
noncomputable def bltOf (N:Nms):List (Nat × Value):=[(N.len,.builtin "len"),(N.tuple,.type "tuple"),(N.list,.type "list"),(N.enumerate,.type "enumerate"),(N.range,.type "range"),(N.set_,.type "set"),
 (N.getattr,.builtin "getattr"),(N.min,.builtin "min"),(N.dict,.type "dict"),(N.keyError,.type "KeyError"),(N.indexError,.type "IndexError")]
structure GNames (G:Gl) (N:Nms):Prop where
 glob:∃ mg mb,G.B.Ns G.mA mg∧G.B.Ns G.bA mb∧(∀ x v,G.P.glob x=some v→∃ cv,mg (G.nm x)=some cv∧∀ W,VRel G W v cv)∧
  ∀ p∈bltOf N,mg (G.nm p.1)=none∧mb (G.nm p.1)=some p.2∧G.P.glob p.1=none
 nolimit:G.B.NoLimit
noncomputable def Cx.em (C:Cx) (G:Gl):Em:=⟨theLn C.ln,G.nm,G.P.strq,C.root⟩
noncomputable def Hand (C:Cx):Prop:=C.A.handled=none∧∃ outer,C.A.frames=some (C.env::outer)∧C.env.frame=some C.L∧C.env.scope.kind= .function∧(∀ e∈outer,e.scope.kind= .function∧∃ a o es n,e.frame=some a∧(a,o)∈C.keeps∧o.data= .dict es n)∧C.A.guards=some []
theorem Hand.deeper {C D:Cx} (hh:Hand C) {oL:Obj} {es:Array DictEntry} {ep:Nat} (hA:D.A=C.A.deeper D.env) (hk:D.keeps=(C.L,oL)::C.keeps) (hf:D.env.frame=some D.L) (hkind:D.env.scope.kind= .function) (hd:oL.data= .dict es ep):Hand D:=by
 walk_at "e C D|hh|oL es ep|hA hk hf hkind hd"
 refine oAEAAAA hh fun h1 outer h2 h3 h4 h5 h6=> ?_
 refine ⟨by rw [hA];exact h1,C.env::outer,?_,hf,hkind,fun e he=> ?_,by rw [hA];exact h6⟩
 ·rw [hA];refine (?_:C.A.frames.map (D.env:: ·)=_);rw [h2];rfl
 ·rcases Zq he with rfl | he
  ·exact ⟨h4,C.L,oL,es,ep,h3,by rw [hk];exact Qk ..,hd⟩
  ·refine oAEEEEAA (h5 e he) fun q1 a ob es' n q2 q3 q4=> ?_
   exact ⟨q1,a,ob,es',n,q2,by rw [hk];exact Qj _ q3,q4⟩
structure Env0 (G:Gl) (C:Cx) (g:Nat→Bool):Prop where
 fn:C.env.scope.kind= .function
 loc:∀ (x:Nat) (nm:String),C.ln[x]? =some nm→match C.cell x with
  | none=>C.env.kindOf (Str.ofString nm)=some .local
  | some c=>(C.env.kindOf (Str.ofString nm)=some .cell∨(C.env.kindOf (Str.ofString nm)=some .free∧(Str.ofString nm==("__classdict__" :Str))=false))∧C.env.cells.lookup (Str.ofString nm)=some c
 dbg:∀ (x:Nat) (nm:String),C.ln[x]? =some nm→(Str.ofString nm==("__debug__" :Str))=false
 nd:(C.ln.map Str.ofString).Nodup
 glo:∀ x,g x=true→C.env.kindOf (G.nm x)=some .globalImplicit∧(G.nm x==("__debug__" :Str))=false
 gl:C.env.globals=G.mA
 bl:C.env.builtins=G.bA
 hand:Hand C
noncomputable def Room (C:Cx) (d:Nat):Prop:=C.A.units+16 * d+40≤cLine∧C.A.depth+4 * d+4≤recursionLimit
noncomputable def methIds:List Nat:=clsT.flatMap fun p=>p.2.meths.map (·.1)
noncomputable def okAttr (a:Nat):Bool:=Nat.blt a nameT.length && !methIds.contains a
noncomputable def noCall:CE→Bool
 | .calL _ _ _ _=>false
 | .calG _ _ _ _=>false
 | _=>true
noncomputable def oneLine (pa p:Pos):Bool:=pa.endLine==p.line
mutual
noncomputable def wfE (g:Nat→Bool):CE→Bool
 | .non _ | .boo _ _ | .num _ _ | .str _ _ | .loc _ _ | .dic _=>true
 | .gl x _=>g x
 | .attr e a _=>wfE g e && okAttr a && noCall e
 | .sub e i _=>wfE g e && wfE g i
 | .slc e lo hi _ _=>wfE g e && wfO g lo && wfO g hi
 | .cmp l _ r _=>wfE g l && wfE g r
 | .and es _=>wfEs g es
 | .or es _=>wfEs g es
 | .not e _=>wfE g e
 | .neg e _=>wfE g e
 | .bin l _ r _=>wfE g l && wfE g r
 | .ifx t a b _=>wfE g t && wfE g a && wfE g b
 | .lst es _=>wfEs g es
 | .tup es _=>wfEs g es
 | .meth o _ args pa p=>wfE g o && wfEs g args && oneLine pa p && decide (args.length < 20) && noCall o
 | .calL _ _ args _=>wfEs g args && decide (args.length < 20)
 | .calG f _ args _=>g f && wfEs g args && decide (args.length < 20)
noncomputable def wfEs (g:Nat→Bool):List CE→Bool
 | []=>true
 | e::r=>wfE g e && wfEs g r
noncomputable def wfO (g:Nat→Bool):Option CE→Bool
 | none=>true
 | some e=>wfE g e
end
section
variable {G:Gl} {C:Cx} {W:Wd} {l:Tr AV} {s:St} {S:Shared} {E:Value→Shared→Prop} {A:Around}
noncomputable def Cont (G:Gl) (C:Cx) (W:Wd) (l:Tr AV) (s:St) (v:AV) (Q:Value→Shared→Prop):Prop:=∀ W' S' vc,W.le W'→Inv G C W' l s S'→VRel G W' v vc→Q vc S'
noncomputable def EvAt (G:Gl) (E:Ev) (g:Nat→Bool) (e:CE):Prop:=∀ {C:Cx} {W:Wd} {l:Lo} {s:St} {S:Shared} {v:AV} {s':St} {Q:Value→Shared→Prop} {X:Value→Shared→Prop},
 Env0 G C g→Room C l.dep→Inv G C W l.vs s S→E.ev e l s=some (v,s')→Cont G C W l.vs s' v Q→wpAny (model G.prog G.w) C.A (eval (embE (C.em G) e) C.env) Q X S
noncomputable def TsAt (G:Gl) (E:Ev) (g:Nat→Bool) (e:CE):Prop:=∀ {C:Cx} {W:Wd} {l:Lo} {s:St} {S:Shared} {b:Bool} {s':St} {Q:Bool→Shared→Prop} {X:Value→Shared→Prop},
 Env0 G C g→Room C l.dep→Inv G C W l.vs s S→E.tst e l s=some (b,s')→(∀ W' S',W.le W'→Inv G C W' l.vs s' S'→Q b S')→
 wpAny (model G.prog G.w) C.A (isTrue (embE (C.em G) e) C.env (eval (embE (C.em G) e) C.env)) Q X S
theorem theLn_some {ln:List String} {x:Nat} {nm:String} (h:ln[x]? =some nm):theLn ln x=Str.ofString nm:=by unfold theLn;rw [h]
theorem Inv.load (I:Inv G C W l s S) {g:Nat→Bool} (F:Env0 G C g) {x:Nat} {v:AV} {pos:Pos} {Q:Value→Shared→Prop} (hl:l.get x=some v) (k:∀ vc,VRel G W v vc→Q vc S):
  wpAny (model G.prog G.w) A (eval (.Name (theLn C.ln x) pos) C.env) Q E S:=by
 refine oEA (I.loc) fun m hn hm=> ?_
 refine oEEAA (hm x v hl) fun nm cv h1 h2 h3=> ?_
 rw [theLn_some h1]
 refine wpAny_Name ?_ (F.dbg x nm h1)
 have q:=F.loc x nm h1
 unfold Cx.Has at h2
 cases hc:C.cell x with
 | none=>
  rw [hc] at h2 q
  exact wpAny_loadName_local F.fn q hn h2 (k cv h3)
 | some c=>
  rw [hc] at h2 q
  refine oEA h2 fun o ho hd=> ?_
  have hcell:S.heap.IsCell c (some cv):=⟨o,(I.pin _ ho).1,hd⟩
  rcases q with ⟨q1 | ⟨q1,q2⟩,q3⟩
  ·exact wpAny_loadName_cell F.fn q1 q3 hcell (k cv h3)
  ·exact wpAny_loadName_free F.fn q1 q3 hcell (k cv h3) q2
theorem Inv.ns (I:Inv G C W l s S) {a:Addr} {m:Str→Option Value} (h:G.B.Ns a m):S.heap.Ns a m:=by
 refine oEEEA h fun o es ep h1 h2=> ?_;exact ⟨o,es,ep,I.base _ _ h1,h2⟩
theorem Inv.gload {N:Nms} (I:Inv G C W l s S) {g:Nat→Bool} (F:Env0 G C g) (GN:GNames G N) {x:Nat} {v:AV} {pos:Pos} {Q:Value→Shared→Prop} (hg:g x=true) (hl:G.P.glob x=some v) (k:∀ vc,VRel G W v vc→Q vc S):
  wpAny (model G.prog G.w) A (eval (.Name (G.nm x) pos) C.env) Q E S:=by
 refine Yg (GN.glob) fun mg mb h1 h2 h3 h4=> ?_
 refine oA (F.glo x hg) fun q1 q2=> ?_
 refine oEA (h3 x v hl) fun cv h5 h6=> ?_
 exact Calls.Name_function_global F.fn q1 (Calls.loadGlobal_global (F.gl ▸ I.ns h1) h5 (k cv (h6 W))) q2
theorem Inv.bload {N:Nms} (I:Inv G C W l s S) {g:Nat→Bool} (F:Env0 G C g) (GN:GNames G N) {x:Nat} {v:Value} {pos:Pos} {Q:Value→Shared→Prop} (hg:g x=true) (hl:(x,v)∈bltOf N) (k:Q v S):
  wpAny (model G.prog G.w) A (eval (.Name (G.nm x) pos) C.env) Q E S:=by
 refine Yg (GN.glob) fun mg mb h1 h2 h3 h4=> ?_
 refine oA (F.glo x hg) fun q1 q2=> ?_
 refine oAA (h4 _ hl) fun h5 h6 uu=> ?_
 exact Calls.Name_function_global F.fn q1 (Calls.loadGlobal_builtin (F.gl ▸ I.ns h1) h5 (F.bl ▸ I.ns h2) h6 k) q2
theorem Yy (m:Em) (e:CE) (r:List CE) (env:Env):starEach (embEs m (e::r)) env=(false,eval (embE m e) env)::starEach (embEs m r) env:=by cases e <;> rfl
theorem evs_sound {Ee:Ev} {g:Nat→Bool} (hE:∀ e,wfE g e=true→EvAt G Ee g e) {lo:Lo} {pos:Pos} (F:Env0 G C g) (R:Room C lo.dep):∀ (es:List CE) {W:Wd} {s:St} {S:Shared} {vs:List AV} {s':St} {Q:List Value→Shared→Prop},
  wfEs g es=true→Inv G C W lo.vs s S→evs (fun e s=>Ee.ev e lo s) es s=some (vs,s')→(∀ W' S' us,W.le W'→Inv G C W' lo.vs s' S'→VRels G W' vs us→Q us S')→
  wpAny (model G.prog G.w) C.A (spliced (backTo pos (starEach (embEs (C.em G) es) C.env))) Q E S
 | [],W,s,S,vs,s',Q,_,I,h,k=>by
  ((refine oA (i2 h) fun q0z q1z=> ?_;subst q0z q1z))
  exact Calls.spliced_nil (k W S [] (.refl W) I .nil)
 | e::r,W,s,S,vs,s',Q,hw,I,h,k=>by
  replace hw:=bt1 hw
  walk_at "m m2 h v s1 h h1"
  walk_at "m m27 h vs2 s2 h h2"
  ((refine oA (i2 h) fun q0z q1z=> ?_;subst q0z q1z))
  rw [Yy]
  refine Wy (hE e hw.1 F R I h1 fun W1 S1 vc le1 I1 r1=> ?_)
  exact evs_sound hE F R r hw.2 I1 h2 fun W2 S2 us le2 I2 r2=>k W2 S2 _ (le1.trans le2) I2 (.cons (r1.mono le2) r2)
theorem swaps_emb (m:Em) (e:CE) (t:Option Expr) (n:Nat) (env:Env):swapsWith (embE m e) t n env=pure false:=by cases e <;> rfl
theorem behind_emb (m:Em) (e:CE) (op:CmpOp):behindInMarks op (embE m e)=false:=by cases e <;> rfl
theorem Zv:4001≤sizeLine:=by size_fits
end
section
variable {G:Gl} {C:Cx} {W:Wd} {l:Tr AV} {s:St} {S:Shared} {E:Value→Shared→Prop} {A:Around}
theorem subscripted_any {sl:PySem.Expr} {o i:Value} {Q:Value→Shared→Prop} (h:wpAny (model G.prog G.w) A (getItem o i) Q E S):wpAny (model G.prog G.w) A (subscripted sl false o i) Q E S:=by
 cases sl with
 | Slice lo hi st p=>cases st <;> exact wpAny_operating h
 | _=>exact wpAny_operating h
theorem Vn {value sl:PySem.Expr} {o i:Value} {T id:String} {Q:Value→Shared→Prop} (hT:S.TypeIs o T) (hl:typeLookup (.type T) "__getitem__" =pure (some (.builtin id)))
  (h:wpAny (model G.prog G.w) A (getItem o i) Q E S):wpAny (model G.prog G.w) A (subscriptTail value sl o i) Q E S:=by
 unfold subscriptTail
 refine Qq ?_
 rw [getitemInPython_of_ne hT.not_modules]
 refine Qq (wpAny_specialOf hT hl ?_)
 have fin:wpAny (model G.prog G.w) A (subscripted sl false o i) (fun r s₃=>wpAny (model G.prog G.w) A (letTemporaryGo value o r >>=fun uu=>pure r) Q E s₃) E S:=
  subscripted_any (wpAny_mono h (fun r s₃ h₃=>Qq (wpAny_letTemporaryGo (Qw h₃))) fun uu uu x=>x)
 first
  | exact Qw (Qq fin)
  | exact Qq (Qw (Qq fin))
  | exact Qq fin
set_option tactic.hygienic true in
theorem getI_type {v i r:AV} {vc:Value} (I:Inv G C W l s S) (h:getI v i s=some r) (hv:VRel G W v vc):∃ T id,S.TypeIs vc T∧typeLookup (.type T) "__getitem__" =pure (some (.builtin id)):=by
 walk_at "e G C W l s S v i r vc|I h hv"
 unfold getI at h
 split at h
 ·rename_i n
  refine vRef hv fun ad ha=> ?_
  split at h
  ·rename_i xs e
   refine oEEAA (I.list e ha) fun vs m hg hr hl=> ?_
   exact ⟨_,_,hl.typeIs,slot_list_getitem.lookup⟩
  ·rename_i es ep e
   refine oE (I.dict e ha) fun ds D=> ?_
   exact ⟨_,_,D.typeIs,slot_dict_getitem.lookup⟩
  ·exact nos h
 ·(refine oEEAA (I.pins.tup hv) fun a vs q2z ht hr=> ?_;subst q2z)
  exact ⟨_,_,ht.typeIs,slot_tuple_getitem.lookup⟩
 ·refine vStr hv fun _=> ?_
  exact ⟨_,_,typeIs_str S _ _,PyProof.Rows.slot_str_getitem.lookup⟩
 ·exact nos h
theorem Yv (I:Inv G C W l s S) (hu:A.units+7≤cLine) {value sl:PySem.Expr} {v i r:AV} {vc ic:Value} {Q:Value→Shared→Prop} (h:getI v i s=some r) (hv:VRel G W v vc) (hi:VRel G W i ic)
  (k:∀ tk rc,VRel G W r rc→Q rc { S with toks:=tk }):wpAny (model G.prog G.w) A (subscriptTail value sl vc ic) Q E S:=by
 refine oEEA (getI_type I h hv) fun T id h1 h2=> ?_
 exact Vn h1 h2 (getItem_sound I hu h hv hi k)
theorem Xk (h:Heap) (o:Obj):∀ b x,h.get? b=some x→(h.push o).get? b=some x:=fun uu uu e=>Qv _ e
theorem Xd (h:Heap) {o:Obj} (ho:o.isFreed=false):(h.push o).get? h.objs.size=some o:=Heap.get?_push_size h ho
theorem Xw (h:Heap):h.get? h.objs.size=none:=by
 cases q:h.get? h.objs.size with
 | none=>rfl
 | some o=>exact absurd (Heap.lt_size q) (Nat.lt_irrefl _)
theorem Inv.fresh' (I:Inv G C W l s S) {o:AO} {co:Obj} {v:AV} {s':St} (hs:s.new o=some (v,s')) (ho:OObj G W o co) (hf:co.isFreed=false):
  W.le ⟨W.σ++ [S.heap.objs.size],W.pin⟩∧Inv G C ⟨W.σ++ [S.heap.objs.size],W.pin⟩ l s' { S with heap:=S.heap.push co }∧VRel G ⟨W.σ++ [S.heap.objs.size],W.pin⟩ v (.ref S.heap.objs.size):=by
 refine oAA (I.new (tk:=S.toks) hs (Xw _) (Xk _ co) (Xd _ hf) (ho.mono (W.le_obj _))) fun uu h1 h2=> ?_
 exact ⟨W.le_obj _,h1,h2⟩
theorem Inv.freshTup (I:Inv G C W l s S) {xs:List AV} {vs:List Value} (h:VRels G W xs vs):
  ∃ W',W.le W'∧Inv G C W' l s { S with heap:=S.heap.push { cls:= .type "tuple",data:= .seq vs.toArray } }∧VRel G W' (.tup xs) (.ref S.heap.objs.size):=by
 have le:=W.le_pin (S.heap.objs.size,{ cls:= .type "tuple",data:= .seq vs.toArray })
 exact ⟨_,le,I.newPin (tk:=S.toks) (Xw _) (Xk _ _) (Xd _ rfl),.tup (Qk ..) rfl rfl (h.mono le)⟩
set_option tactic.hygienic true in
theorem kms_lo_bound (i:Int) (n:Nat):PySem.W.kms_lo (some i) n=bound i n:=by
 unfold PySem.W.kms_lo bound
 cases i with
 | ofNat k=>
  have:¬((Int.ofNat k) < 0):=by simp
  simp only [this,if_false]
  split
  ·rename_i q;have:=Qh q;simp;lia
  ·rename_i q;have:¬k≤n:=fun z=>by rw [Wb z] at q;exact taf q
   simp;lia
 | negSucc k=>
  have:(Int.negSucc k) < 0:=Int.negSucc_lt_zero k
  simp only [this,if_true]
  rfl
theorem kms_hi_bound (i:Int) (n:Nat):PySem.W.kms_hi (some i) n=bound i n:=kms_lo_bound i n
theorem cut_eq {xs l:List AV} {lo hi:Option Int} (h:cut xs lo hi=some l):l=(xs.drop (PySem.W.kms_lo lo xs.length)).take (PySem.W.kms_hi hi xs.length - PySem.W.kms_lo lo xs.length):=by
 unfold cut at h
 cases lo <;> cases hi <;> simp only [Zd,Vq,takeN_eq] at h <;> rw [←Qz h] <;> (try simp only [kms_lo_bound,kms_hi_bound]) <;> rfl
set_option tactic.hygienic true in
theorem slice_sound (I:Inv G C W l s S) {v r:AV} {lo hi:Option Int} {s':St} {vc vl vu:Value} {value sl:PySem.Expr} {Q:Value→Shared→Prop} (h:sliceV v lo hi s=some (r,s')) (hv:VRel G W v vc) (pl:IsPart vl lo) (pu:IsPart vu hi)
  (k:Cont G C W l s' r Q):wpAny (model G.prog G.w) A (subscriptTail value sl vc (.ref S.heap.objs.size)) Q E { S with heap:=S.heap.push { cls:= .type "slice",data:= .fields #[vl,vu,.none] } }:=by
 walk_at "e G C W l s S E A|I|v r lo hi s' vc vl vu value sl Q|h hv pl pu k"
 unfold sliceV at h
 have I':Inv G C W l s { S with heap:=S.heap.push { cls:= .type "slice",data:= .fields #[vl,vu,.none] } }:=I.grow (tk:=S.toks) (Xk _ _)
 split at h
 ·rename_i n
  refine vRef hv fun ad ha=> ?_
  walk_at "m m73 h xs h e"
  walk_at "m m12 h h hsm"
  walk_at "m m13 h l' h hl'"
  refine oEEAA (I'.list e ha) fun vs m hg hr hl=> ?_
  have hlen:=hr.length
  have hsm:=Zf hsm
  have sz:=Zv
  refine Vn (S:={ S with heap:=S.heap.push { cls:= .type "slice",data:= .fields #[vl,vu,.none] } }) hl.typeIs slot_list_getitem.lookup (wpAny_getItem_list_slice hl (Heap.IsSliceOf.new ..) pl pu .none (by simp) ?_ (by simp;lia))
  rw [PySem.W.kms_pick_eq]
  have e2:PySem.W.kms_pick vs.toArray.toList lo hi=(vs.drop (PySem.W.kms_lo lo xs.length)).take (PySem.W.kms_hi hi xs.length - PySem.W.kms_lo lo xs.length):=by
   unfold PySem.W.kms_pick;simp [hlen]
  rw [e2]
  have hr2:VRels G W l' ((vs.drop (PySem.W.kms_lo lo xs.length)).take (PySem.W.kms_hi hi xs.length - PySem.W.kms_lo lo xs.length)):=by
   rw [cut_eq hl'];exact (hr.drop _).take _
  refine oAA (I'.fresh' (co:={ cls:= .type "list",data:= .seq _ }) h ⟨_,0,rfl,hr2⟩ rfl) fun le J R=> ?_
  exact k _ _ _ le J R
 ·rename_i xs
  walk_at "m m12 h h hsm"
  walk_at "M m108 h k' h"
  walk_at "m m12 h h q1"
  walk_at "m m12 h h q2"
  walk_at "M m182 h h"
  simp only [takeN_eq,Vq,Zd] at h
  ((refine oA (i2 h) fun q0z q1z=> ?_;subst q0z q1z))
  have h1:=Qh q1
  have h2:=Qh q2
  rw [Zd] at h2
  have hsm:=Zf hsm
  have sz:=Zv
  (refine oEEAA (I'.pins.tup hv) fun a vs q2z ht hr=> ?_;subst q2z)
  have hlen:=hr.length
  cases pl with
  | int i t=>
   cases pu
   refine Vn (S:={ S with heap:=S.heap.push { cls:= .type "slice",data:= .fields #[.int (Int.ofNat k') t,.none,.none] } }) ht.typeIs slot_tuple_getitem.lookup (getItem_tuple_from ht (Heap.IsSliceOf.new ..) h1 (by simp;lia) ?_ (by simp;lia))
   have e2:(xs.drop k').take xs.length=xs.drop k':=List.take_of_length_le (by simp)
   rw [e2] at k
   have hr2:VRels G W (xs.drop k') (vs.toArray.toList.drop k'):=by simpa using hr.drop k'
   refine oEAA (I'.freshTup hr2) fun W' le J R=> ?_
   exact k _ _ _ le J R
 ·exact nos h
end
structure EOk (G:Gl) (E:Ev):Prop where
 ev:∀ g e,wfE g e=true→EvAt G E g e
 ts:∀ g e,wfE g e=true→TsAt G E g e
section
variable {G:Gl} {N:Nms} {Ee:Ev} {g:Nat→Bool}
theorem Room.u7 {C:Cx} {d:Nat} (h:Room C d):C.A.units+7≤cLine:=by have:=h.1;lia
theorem ev_non {p:Pos}:EvAt G (stepE G.P N Ee) g (.non p):=fun F R I h k=>by
 cases h;exact PyProof.Rows.Constant_none (k _ _ _ (.refl _) I .non)
theorem ev_boo {b:Bool} {p:Pos}:EvAt G (stepE G.P N Ee) g (.boo b p):=fun F R I h k=>by
 cases h;exact PyProof.Rows.Constant_bool (k _ _ _ (.refl _) I (.boo b))
theorem ev_num {n:Nat} {p:Pos}:EvAt G (stepE G.P N Ee) g (.num n p):=fun F R I h k=>by
 cases h;exact Qn (k _ _ _ (.refl _) I.toks (.int _ _))
theorem ev_str {n:Nat} {p:Pos}:EvAt G (stepE G.P N Ee) g (.str n p):=fun F R I h k=>by
 cases h;exact wpAny_Constant_str (k _ _ _ (.refl _) I.toks (.str _ _))
theorem ev_loc {x:Nat} {p:Pos}:EvAt G (stepE G.P N Ee) g (.loc x p):=fun {C W l s S v s' Q X} F R I h k=>by
 walk_at "m m8 h _ h q"
 ((refine oA (i2 h) fun q0z q1z=> ?_;subst q0z q1z));exact I.load F q fun vc r=>k _ _ _ (.refl _) I r
theorem ev_gl (GN:GNames G N) {x:Nat} {p:Pos} (hw:wfE g (.gl x p)=true):EvAt G (stepE G.P N Ee) g (.gl x p):=fun {C W l s S v s' Q X} F R I h k=>by
 walk_at "m m8 h _ h q"
 ((refine oA (i2 h) fun q0z q1z=> ?_;subst q0z q1z));exact I.gload F GN hw q fun vc r=>k _ _ _ (.refl _) I r
theorem ev_sub (H:EOk G Ee) {e i:CE} {p:Pos} (hw:wfE g (.sub e i p)=true):EvAt G (stepE G.P N Ee) g (.sub e i p):=fun {C W l s S v s' Q X} F R I h k=>by
 replace hw:=bt1 hw
 walk_at "m m2 h a s1 h h1"
 walk_at "m m2 h b s2 h h2"
 walk_at "m m8 h r h h3"
 ((refine oA (i2 h) fun q0z q1z=> ?_;subst q0z q1z))
 refine Subscript_ (H.ev g e hw.1 F R I h1 fun W1 S1 ac le1 I1 r1=>H.ev g i hw.2 F R I1 h2 fun W2 S2 bc le2 I2 r2=> ?_)
 exact Yv I2 R.u7 h3 (r1.mono le2) r2 fun tk rc r3=>k _ _ _ (le1.trans le2) I2.toks r3
theorem opt_sound (H:EOk G Ee) {e:Option CE} (hw:wfO g e=true) {C:Cx} {W:Wd} {l:Lo} {s:St} {S:Shared} {v:Option Int} {s':St} {Q:Value→Shared→Prop} {X:Value→Shared→Prop}
  (F:Env0 G C g) (R:Room C l.dep) (I:Inv G C W l.vs s S) (h:optE (fun e s=>Ee.ev e l s) e s=some (v,s')) (k:∀ W' S' vc,W.le W'→Inv G C W' l.vs s' S'→IsPart vc v→Q vc S'):
  wpAny (model G.prog G.w) C.A (evalPart (embO (C.em G) e) C.env) Q X S:=by
 cases e with
 | none=>((refine oA (i2 h) fun q0z q1z=> ?_;subst q0z q1z));exact Qw (k _ _ _ (.refl _) I .none)
 | some e=>
  walk_at "m m58 h i s1 h h1"
  ((refine oA (i2 h) fun q0z q1z=> ?_;subst q0z q1z))
  exact H.ev g e hw F R I h1 fun W1 S1 vc le I1 r1=>by refine vInt r1 fun uu=> ?_;exact k _ _ _ le I1 (.int _ _)
theorem ev_slc (H:EOk G Ee) {e:CE} {lo hi:Option CE} {ps p:Pos} (hw:wfE g (.slc e lo hi ps p)=true):EvAt G (stepE G.P N Ee) g (.slc e lo hi ps p):=fun {C W l s S v s' Q X} F R I h k=>by
 replace hw:=bt2 hw
 walk_at "m m2 h a s1 h h1"
 walk_at "m m71 h x s2 h h2"
 walk_at "m m71 h y s3 h h3"
 refine Subscript_ (H.ev g e hw.1.1 F R I h1 fun W1 S1 ac le1 I1 r1=>wpAny_Slice (opt_sound H hw.1.2 F R I1 h2 fun W2 S2 bc le2 I2 r2=>opt_sound H hw.2 F R I2 h3 fun W3 S3 cc le3 I3 r3=> ?_))
 rw [evalPart_none]
 exact Qw (slice_sound I3 h ((r1.mono le2).mono le3) r2 r3 fun W4 S4 rc le4 I4 r4=>k _ _ _ (le1.trans (le2.trans (le3.trans le4))) I4 r4)
theorem ev_cmp (O:GOk G) (H:EOk G Ee) {a b:CE} {op:CmpOp} {p:Pos} (hw:wfE g (.cmp a op b p)=true):EvAt G (stepE G.P N Ee) g (.cmp a op b p):=fun {C W l s S v s' Q X} F R I h k=>by
 replace hw:=bt1 hw
 walk_at "m m2 h x s1 h h1"
 walk_at "m m2 h y s2 h h2"
 walk_at "m m20 h r h h3"
 ((refine oA (i2 h) fun q0z q1z=> ?_;subst q0z q1z))
 refine wpAny_Compare1 (H.ev g a hw.1 F R I h1 fun W1 S1 ac le1 I1 r1=>H.ev g b hw.2 F R I1 h2 fun W2 S2 bc le2 I2 r2=> ?_) (behind_emb _ _ _)
 exact cmpV_sound O I2 R.u7 h3 (r1.mono le2) r2 fun tk=>k _ _ _ (le1.trans le2) I2.toks (.boo r)
theorem ev_neg (H:EOk G Ee) {e:CE} {p:Pos} (hw:wfE g (.neg e p)=true):EvAt G (stepE G.P N Ee) g (.neg e p):=fun {C W l s S v s' Q X} F R I h k=>by
 walk_at "m m58 h i s1 h h1"
 rw [Xb] at h
 ((refine oA (i2 h) fun q0z q1z=> ?_;subst q0z q1z))
 refine UnaryOp_ (H.ev g e hw F R I h1 fun W1 S1 ac le1 I1 r1=> ?_)
 refine vInt r1 fun uu=> ?_
 exact PyProof.Rows.neg_int (k _ _ _ le1 I1.toks (.int _ _))
theorem repN_rel {G:Gl} {W:Wd} {x:AV} {v:Value} (h:VRel G W x v):∀ k,VRels G W (repN x k) (List.replicate k v)
 | 0=> .nil
 | k+1=> .cons h (repN_rel h k)
theorem mul_of_list {prog:Program} {w:World} {A:Around} {E:Value→Shared→Prop} {s:Shared} {l:Addr} {items:Array Value} {k:Nat} {x:Int} {u:Tok} {Q:Value→Shared→Prop}
  (hl:s.heap.get? l=some { cls:= .type "list",dict:=none,data:= .seq items k,slots:= #[] }) (h0:0≤x) (hhi:x≤4000) (hsz:items.size * x.toNat≤4000)
  (h:Q (.ref s.heap.objs.size) { s with heap:=s.heap.push { cls:= .type "list",data:= .seq (List.foldl (fun x1 x2=>x1++x2) #[] (List.replicate (if items.isEmpty=true then 0 else x.toNat) items)) } }):
  wpAny (model prog w) A (binaryOp .Mult (.ref l) (.int x u)) Q E s:=
 wpAny_binaryOp_repeat_ref (T:= "list") (U:= "int") (by decide) ⟨_,hl,rfl⟩ (fun s'=>typeIs_int s' x u) noFill_list_mul F.fills_int_mul F.slot_int_rmul repeat_list F.slot_int_index.lookup
  (call_meets F.slot_int_rmul (typeIs_int s x u) F.entry_int_rmul (F.args_int_rmul_2 _ _) (int___rmul___int_list x u l items k)
   ⟨hl,rfl,⟨_,hl,rfl⟩,call_meets F.slot_list_mul ⟨_,hl,rfl⟩ F.entry_list_mul (F.args_list_mul_2 _ _)
    (AutoListH.list___mul___list_int_3 l items k x u (by simp [Builtin.List.listFitsIndex];lia) (by lia) (by simp [Builtin.List.listTooLong,sizeLine];lia))
    ⟨hl,h⟩⟩)
set_option tactic.hygienic true in
theorem preV_sound {C:Cx} {W:Wd} {l:Tr AV} {s s':St} {S:Shared} {op:PySem.Operator} {a b v:AV} {ac bc:Value} {Q:Value→Shared→Prop} {X:Value→Shared→Prop} {A:Around} (I:Inv G C W l s S) (h:preV op a b s=some (v,s')) (ha:VRel G W a ac) (hb:VRel G W b bc)
  (k:∀ W' S' vc,W.le W'→Inv G C W' l s' S'→VRel G W' v vc→Q vc S'):wpAny (model G.prog G.w) A (binaryOp op ac bc) Q X S:=by
 walk_at "e G C W l s s' S op a b v ac bc Q X A|I h ha hb k"
 unfold preV at h
 split at h
 ·walk_at "M m173 h i h"
  walk_at "M m34 h j h"
  split at h
  ·exact nos h
  ·rename_i j
   rw [Xb] at h
   ((refine oA (i2 h) fun q0z q1z=> ?_;subst q0z q1z))
   refine vInt ha fun _=> ?_;refine vInt hb fun _=> ?_
   have e:i.fmod (Int.ofNat (j+1))=i % Int.ofNat (j+1):=Int.fmod_eq_emod_of_nonneg _ (Int.natCast_nonneg _)
   have hne:Int.ofNat (j+1)≠0:=by show ((j+1:Nat):Int)≠0;lia
   refine PyProof.Rows.mod_int' hne ?_
   rw [e]
   exact k _ _ _ (.refl _) I.toks (.int _ _)
 ·walk_at "M m174 h m h"
  walk_at "m m73 h xs h hx"
  walk_at "M m174 h n h"
  walk_at "m m73 h ys h hy"
  walk_at "m m12 h h h1"
  walk_at "m m12 h h h2"
  rw [app_eq] at h
  have h1:=Zf h1
  have h2:=Zf h2
  have sz:=sizeLine_eq
  refine vRef ha fun _ ha=> ?_
  refine vRef hb fun _ hb=> ?_
  refine oEEAA (I.list hx ha) fun vs m1 g1 r1 l1=> ?_
  refine oEEAA (I.list hy hb) fun us m2 g2 r2 l2=> ?_
  have e1:=r1.length
  have e2:=r2.length
  refine oAA (I.fresh' (co:={ cls:= .type "list",data:= .seq (vs++us).toArray }) h ⟨vs++us,0,rfl,r1.append r2⟩ rfl) fun le J rr=> ?_
  refine concat_meets ⟨_,g1,rfl⟩ ⟨_,g2,rfl⟩ noFill_list_add seq_list_add PySem.F.slot_list_add PySem.F.entry_list_add (PySem.F.args_list_add_2 _ _) (list_addW _ _ vs.toArray us.toArray m1 m2 none none #[] #[] (by simp;lia)) ⟨g1,g2,?_⟩
  have e:vs.toArray++us.toArray=(vs++us).toArray:=by simp
  rw [e]
  exact k _ _ _ le J rr
 ·walk_at "M m174 h m h"
  walk_at "m m116 h x h hx"
  walk_at "M m34 h n h"
  walk_at "m m12 h h hk"
  have hk:=Qh hk
  refine vRef ha fun _ ha=> ?_
  refine vInt hb fun tb=> ?_
  refine oEEAA (I.list hx ha) fun vs m1 g1 r1 l1=> ?_
  cases r1 with | cons ra rb=>
  rename_i v0 vr
  (have e0:=isN rb;clear rb;subst e0)
  refine oAA (I.fresh' (co:={ cls:= .type "list",data:= .seq (List.replicate n v0).toArray }) h ⟨List.replicate n v0,0,rfl,repN_rel ra n⟩ rfl) fun le J rr=> ?_
  refine mul_of_list g1 (Int.natCast_nonneg n) (show ((n:Nat):Int)≤4000 from by lia) (by simp;lia) ?_
  have e:(List.foldl (fun x1 x2=>x1++x2) #[] (List.replicate (if ([v0].toArray).isEmpty=true then 0 else (Int.ofNat n).toNat) [v0].toArray))=(List.replicate n v0).toArray:=by
   rw [listMul_foldl,lm_rep_flat_one]
   simp
  rw [e]
  exact k _ _ _ le J rr
 ·exact nos h
set_option tactic.hygienic true in
theorem ev_bin (H:EOk G Ee) {a b:CE} {op:PySem.Operator} {p:Pos} (hw:wfE g (.bin a op b p)=true):EvAt G (stepE G.P N Ee) g (.bin a op b p):=fun {C W l s S v s' Q X} F R I h k=>by
 replace hw:=bt1 hw
 walk_at "m m2 h x s1 h h1"
 walk_at "m m2 h y s2 h h2"
 refine wpAny_BinOp (H.ev g a hw.1 F R I h1 fun W1 S1 ac le1 I1 r1=>H.ev g b hw.2 F R I1 h2 fun W2 S2 bc le2 I2 r2=> ?_)
 split at h
 ·rename_i r hr
  cases h
  exact preV_sound I2 hr (r1.mono le2) r2 fun W3 S3 rc le3 I3 r3=>k _ _ _ (le1.trans (le2.trans le3)) I3 r3
 ·exact binV_sound I2 h (r1.mono le2) r2 fun tk rc e r=>k _ _ _ (le1.trans le2) (e ▸ I2.toks) r
theorem ev_ifx (H:EOk G Ee) {t a b:CE} {p:Pos} (hw:wfE g (.ifx t a b p)=true):EvAt G (stepE G.P N Ee) g (.ifx t a b p):=fun {C W l s S v s' Q X} F R I h k=>by
 replace hw:=bt2 hw
 refine zTs h (fun s1 h h1=> ?_) fun s1 h h1=> ?_
 ·exact IfExp_ (H.ts g t hw.1.1 F R I h1 fun W1 S1 le1 I1=>H.ev g a hw.1.2 F R I1 h fun W2 S2 vc le2 I2 r=>k _ _ _ (le1.trans le2) I2 r)
 ·exact IfExp_ (H.ts g t hw.1.1 F R I h1 fun W1 S1 le1 I1=>H.ev g b hw.2 F R I1 h fun W2 S2 vc le2 I2 r=>k _ _ _ (le1.trans le2) I2 r)
theorem evs_len {f:CE→St→Option (AV × St)}:∀ {es:List CE} {s:St} {vs:List AV} {s':St},evs f es s=some (vs,s')→vs.length=es.length
 | [],s,vs,s',h=>by refine e2 h ?_;rfl
 | e::r,s,vs,s',h=>by
  walk_at "m m2 h _ _ h _"
  walk_at "m m27 h _ _ h h2"
  refine e2 h ?_;simp [evs_len h2]
theorem ev_lst (H:EOk G Ee) {es:List CE} {p:Pos} (hw:wfE g (.lst es p)=true):EvAt G (stepE G.P N Ee) g (.lst es p):=fun {C W l s S v s' Q X} F R I h k=>by
 walk_at "m m12 h h hsm"
 walk_at "m m27 h vs s1 h h1"
 have hn:=evs_len h1
 have hsm:=Zf hsm
 have sz:=Zv
 refine wpAny_List_spliced (evs_sound (H.ev g) F R es hw I h1 fun W1 S1 us le1 I1 r1=> ?_)
 have hl:=r1.length
 refine oAA (I1.fresh' (co:={ cls:= .type "list",data:= .seq us.toArray }) h ⟨us,0,rfl,r1⟩ rfl) fun le J r=> ?_
 exact ⟨by lia,k _ _ _ (le1.trans le) J r⟩
theorem ev_tup (H:EOk G Ee) {es:List CE} {p:Pos} (hw:wfE g (.tup es p)=true):EvAt G (stepE G.P N Ee) g (.tup es p):=fun {C W l s S v s' Q X} F R I h k=>by
 walk_at "m m12 h h hsm"
 walk_at "m m27 h vs s1 h h1"
 ((refine oA (i2 h) fun q0z q1z=> ?_;subst q0z q1z))
 have hn:=evs_len h1
 have hsm:=Zf hsm
 have sz:=Zv
 refine wpAny_Tuple_spliced (evs_sound (H.ev g) F R es hw I h1 fun W1 S1 us le1 I1 r1=> ?_)
 have hl:=r1.length
 refine oEAA (I1.freshTup r1) fun W' le J r=> ?_
 exact ⟨by lia,k _ _ _ (le1.trans le) J r⟩
theorem ev_dic {p:Pos}:EvAt G (stepE G.P N Ee) g (.dic p):=fun {C W l s S v s' Q X} F R I h k=>by
 refine oAA (I.fresh' (co:={ cls:= .type "dict",data:= .dict #[] }) h ⟨[],rfl,.nil,by simp,by simp⟩ rfl) fun le J r=> ?_
 exact wpAny_Dict_empty (k _ _ _ le J r)
noncomputable def isPl:CE→Bool
 | .not _ _=>false
 | .and _ _=>false
 | .or _ _=>false
 | .cmp _ _ _ _=>false
 | .ifx _ _ _ _=>false
 | _=>true
theorem isTrue_emb (m:Em) (e:CE) (env:Env) (whole:Sem Value) (h:isPl e=true):
  isTrue (embE m e) env whole=(do let v ←whole;standAt (embE m e).pos;holding [v] (truthy v)):=by
 cases e <;> first | rfl | exact fat h
theorem ts_step (O:GOk G) (H:EOk G Ee):∀ e,wfE g e=true→TsAt G (stepE G.P N Ee) g e:=fun e hw {C W l s S b s' Q X} F R I h k=>by
 have plain:isPl e=true→
   (match Ee.ev e l s with | some (v,s)=>(match truth G.P v s with | some b=>some (b,s) | none=>none) | none=>none)=some (b,s')→
   wpAny (model G.prog G.w) C.A (isTrue (embE (C.em G) e) C.env (eval (embE (C.em G) e) C.env)) Q X S:=by
  intro hp h
  walk_at "m m2 h v s1 h e1"
  walk_at "m m20 h r h e2"
  ((refine oA (i2 h) fun q0z q1z=> ?_;subst q0z q1z))
  refine isTrue_plain (H.ev g e hw F R I e1 fun W1 S1 vc le I1 r1=> ?_) (isTrue_emb _ _ _ _ hp)
  exact truth_sound O I1 e2 r1 fun tk=>k _ _ le I1.toks
 cases e with
 | not a p=>
  walk_at "m m47 h c s1 h h1"
  ((refine oA (i2 h) fun q0z q1z=> ?_;subst q0z q1z))
  exact isTrue_not (H.ts g a hw F R I h1 fun W1 S1 le I1=>k _ _ le I1)
 | and es p=>
  generalize eval (.BoolOp .And (embEs (C.em G) es) p) C.env=wh
  clear plain
  induction es generalizing W s S with
  | nil=>((refine oA (i2 h) fun q0z q1z=> ?_;subst q0z q1z));exact isTrue_and_nil (k _ _ (.refl _) I)
  | cons e r ih=>
   replace hw:=bt1 hw
   walk_at "m m47 h c s1 h h1"
   refine isTrue_and (H.ts g e hw.1 F R I h1 fun W1 S1 le I1=> ?_)
   cases c with
   | true=>exact ih I1 (fun W2 S2 le2 I2=>k _ _ (le.trans le2) I2) hw.2 h
   | false=>cases h;exact k _ _ le I1
 | or es p=>
  generalize eval (.BoolOp .Or (embEs (C.em G) es) p) C.env=wh
  clear plain
  induction es generalizing W s S with
  | nil=>((refine oA (i2 h) fun q0z q1z=> ?_;subst q0z q1z));exact isTrue_or_nil (k _ _ (.refl _) I)
  | cons e r ih=>
   replace hw:=bt1 hw
   walk_at "m m47 h c s1 h h1"
   refine isTrue_or (H.ts g e hw.1 F R I h1 fun W1 S1 le I1=> ?_)
   cases c with
   | false=>exact ih I1 (fun W2 S2 le2 I2=>k _ _ (le.trans le2) I2) hw.2 h
   | true=>cases h;exact k _ _ le I1
 | cmp a op b p=>
  replace hw:=bt1 hw
  walk_at "m m2 h x s1 h h1"
  walk_at "m m2 h y s2 h h2"
  walk_at "m m20 h r h h3"
  ((refine oA (i2 h) fun q0z q1z=> ?_;subst q0z q1z))
  refine Qq (H.ev g a hw.1 F R I h1 fun W1 S1 ac le1 I1 r1=> ?_)
  have e:markedEach [op] [embE (C.em G) b] (evalEach [embE (C.em G) b] C.env)=[eval (embE (C.em G) b) C.env]:=by
   show [markedBehindIn op (embE (C.em G) b) (eval (embE (C.em G) b) C.env)]=_
   unfold markedBehindIn;rw [behind_emb]
  rw [e]
  refine test_last (H.ev g b hw.2 F R I1 h2 fun W2 S2 bc le2 I2 r2=> ?_)
  exact cmpV_sound O I2 R.u7 h3 (r1.mono le2) r2 fun tk=>wpAny_truthy_bool (k _ _ (le1.trans le2) I2.toks)
 | ifx t a b p=>exact nos h
 | _=>exact plain rfl h
end
structure ClsOk (G:Gl) (Cl:Cls) (C:Addr):Prop where
 get:∀ name,plainGet G.K C name=true
 dict:hasDictIn G.K C=true
 set:findIn G.K (.ref C) "__setattr__" =some (some (.builtin "object.__setattr__"))
 over:plainOver G.K C=true
 attr:∀ k,G.okA k=true→takerIn G.K C (G.nm k)=some none∧copiedNames.contains (G.nm k)=false∧match findA k Cl.plain with
  | none=>findIn G.K (.ref C) (G.nm k)=some none
  | some pv=>∃ v,findIn G.K (.ref C) (G.nm k)=some (some v)∧specialIn G.K v "__get__" =some none∧handedIn v=true∧∀ W,VRel G W pv v
structure ClsM (G:Gl) (Cl:Cls) (C:Addr):Prop where
 meth:∀ k f,findM k Cl.meths=some f→∃ a,G.gad f=some (.ref a)∧findIn G.K (.ref C) (G.nm k)=some (some (.ref a))∧typeIn G.K (.ref a)=some (.type "function")∧G.okA k=false
 makes:makesIn G.K C=true
 len:∀ f,Cl.len=some f→∃ a,G.gad f=some (.ref a)∧findIn G.K (.ref C) "__len__" =some (some (.ref a))∧typeIn G.K (.ref a)=some (.type "function")
 init:∃ a,G.gad Cl.init=some (.ref a)∧findIn G.K (.ref C) "__init__" =some (some (.ref a))∧typeIn G.K (.ref a)=some (.type "function")
structure GCls (G:Gl):Prop where
 cls:∀ c Cl,G.P.cls c=some Cl→∃ C,G.gad c=some (.ref C)∧ClsOk G Cl C∧ClsM G Cl C
section
variable {G:Gl} {C:Cx} {W:Wd} {l:Tr AV} {s:St} {S:Shared} {E:Value→Shared→Prop} {A:Around}
theorem isStr_iff {x y:Str} {t:Tok}:(Value.str x t).isStr y=decide (x=y):=by
 unfold Value.isStr
 by_cases h:x=y <;> simp [h]
theorem Attrs.any_ref {es:List (Nat × AV)} {ds:List DictEntry} (h:Attrs G W es ds):ds.any (·.refKey)=false:=by
 induction h with
 | nil=>rfl
 | cons hv _ ih=>rw [List.any_cons,ih];rfl
theorem findA_t {j:Nat} {x:AV} {r:List (Nat × AV)}:findA j ((j,x)::r)=some x:=by
 refine (?_:(match Nat.beq j j with | true=>some x | false=>findA j r)=_);rw [Tr.beq_eq,Wj rfl]
theorem findA_f {j k:Nat} {x:AV} {r:List (Nat × AV)} (h:¬j=k):findA k ((j,x)::r)=findA k r:=by
 refine (?_:(match Nat.beq j k with | true=>some x | false=>findA k r)=_);rw [Tr.beq_eq,Wk h]
theorem storeA_t {j:Nat} {x y:AV} {r:List (Nat × AV)}:storeA j x ((j,y)::r)=some ((j,x)::r):=by
 refine (?_:(match Nat.beq j j with | true=>some ((j,x)::r) | false=>(match storeA j x r with | some r=>some ((j,y)::r) | none=>none))=_);rw [Tr.beq_eq,Wj rfl]
theorem storeA_f {j k:Nat} {x y:AV} {r:List (Nat × AV)} (h:¬j=k):storeA k x ((j,y)::r)=match storeA k x r with | some r=>some ((j,y)::r) | none=>none:=by
 refine (?_:(match Nat.beq j k with | true=>some ((j,x)::r) | false=>(match storeA k x r with | some r=>some ((j,y)::r) | none=>none))=_);rw [Tr.beq_eq,Wk h]
theorem Attrs.find {es:List (Nat × AV)} {ds:List DictEntry} (h:Attrs G W es ds) (k:Nat):match findA k es with
  | some v=>∃ cv,getL (G.nm k) ds=some (some cv)∧VRel G W v cv
  | none=>getL (G.nm k) ds=some none:=by
 have key:match findA k es with
   | some v=>∃ en,ds.find? (·.key.isStr (G.nm k))=some en∧VRel G W v en.val
   | none=>ds.find? (·.key.isStr (G.nm k))=none:=by
  induction h with
  | nil=>rfl
  | @cons j x es hsh t v ds hv r ih=>
   by_cases q:j=k
   ·subst q
    rw [findA_t]
    exact ⟨⟨hsh,.str (G.nm j) t,v⟩,by rw [List.find?_cons];simp [isStr_iff],hv⟩
   ·have:¬G.nm j=G.nm k:=fun z=>q (G.nmInj _ _ z)
    rw [findA_f q]
    have e:(⟨hsh,.str (G.nm j) t,v⟩::ds:List DictEntry).find? (·.key.isStr (G.nm k))=ds.find? (·.key.isStr (G.nm k)):=by
     rw [List.find?_cons];simp [isStr_iff,this]
    rw [e];exact ih
 unfold getL
 cases hf:findA k es with
 | some v=>rw [hf] at key;refine oEA key fun en e1 e2=> ?_;rw [e1];exact ⟨_,rfl,e2⟩
 | none=>rw [hf] at key;rw [key];simp [h.any_ref]
theorem Attrs.put {es es':List (Nat × AV)} {ds:List DictEntry} (h:Attrs G W es ds) {k:Nat} {x:AV} {xc:Value} {hsh:Int} {t:Tok} (hs:storeA k x es=some es') (hx:VRel G W x xc):Attrs G W es' (putL (G.nm k) hsh (.str (G.nm k) t) xc ds):=by
 induction h generalizing es' with
 | nil=>refine e1 hs ?_;exact .cons hx .nil
 | @cons j y es hsh' t' v ds hv r ih=>
  by_cases q:j=k
  ·subst q
   rw [storeA_t] at hs
   refine e1 hs ?_
   have:(Value.str (G.nm j) t').isStr (G.nm j)=true:=by simp [isStr_iff]
   unfold putL
   rw [if_pos this]
   exact .cons hx r
  ·rw [storeA_f q] at hs
   walk_at "m m15 hs r' hs hr"
   refine e1 hs ?_
   have:¬(Value.str (G.nm j) t').isStr (G.nm k)=true:=by simp [isStr_iff];exact fun z=>q (G.nmInj _ _ z)
   unfold putL
   rw [if_neg this]
   exact .cons hv (ih hr)
theorem storeA_mem {k:Nat} {x:AV} {es:List (Nat × AV)}:∀ {es':List (Nat × AV)},storeA k x es=some es'→∀ e∈es',e.1=k∨∃ y,(e.1,y)∈es:=by
 induction es with
 | nil=>
  intro es' h e he
  (obtain rfl:=Qz h);rw [Zw he];exact .inl rfl
 | cons a es ih=>
  intro es' h e he
  refine zBo h (fun h uu=> ?_) fun h uu=> ?_
  ·(obtain rfl:=Qz h)
   rcases Zq he with rfl | q
   ·exact .inr ⟨a.2,.head _⟩
   ·exact .inr ⟨e.2,.tail _ q⟩
  ·refine m15 h fun r h hr=> ?_
   (obtain rfl:=Qz h)
   rcases Zq he with rfl | q
   ·exact .inr ⟨e.2,.head _⟩
   ·rcases ih hr e q with q | ⟨y,q⟩
    ·exact .inl q
    ·exact .inr ⟨y,.tail _ q⟩
theorem storeA_nodup {k:Nat} {x:AV} {es:List (Nat × AV)}:∀ {es':List (Nat × AV)},storeA k x es=some es'→(es.map (·.1)).Nodup→(es'.map (·.1)).Nodup:=by
 induction es with
 | nil=>intro es' h uu;refine e1 h ?_;simp
 | cons a es ih=>
  intro es' h hn
  refine zBo h (fun h uu=> ?_) fun h q=> ?_
  ·refine e1 h ?_
   exact hn
  ·rw [Tr.beq_eq] at q
   refine m15 h fun r h hr=> ?_
   refine e1 h ?_
   rw [List.map_cons,List.nodup_cons] at hn ⊢
   refine ⟨fun z=> ?_,ih hr hn.2⟩
   refine oEA (List.mem_map.mp z) fun e he e1=> ?_
   rcases storeA_mem hr e he with z | ⟨y,z⟩
   ·exact of_decide_eq_false q (e1.symm.trans z)
   ·exact hn.1 (List.mem_map.mpr ⟨_,z,e1⟩)
theorem handed_ok {v:AV} {cv:Value} (h:handed v=true) (r:VRel G W v cv):handedIn cv=true:=by
 cases r <;> first | rfl | exact fat h
theorem Inv.inst (I:Inv G C W l s S) {n c d:Nat} {es:List (Nat × AV)} {a:Addr} (e1:s.h.get n=some (.inst c d)) (e2:s.h.get d=some (.attrs es)) (ha:W.σ[n]? =some a):
  ∃ CA ad ds m,G.gad c=some (.ref CA)∧W.σ[d]? =some ad∧S.heap.get? a=some (instObj CA ad)∧S.heap.get? ad=some (dictOf ds m)∧Attrs G W es ds∧(es.map (·.1)).Nodup∧(∀ e∈es,G.okA e.1=true):=by
 walk_at "e G C W l s S|I|n c d es a|e1 e2 ha"
 obtain ⟨co,h1,CA,ad,h2,h3,rfl⟩:=I.at e1 ha
 obtain ⟨co2,h4,ds,m,rfl,h5,h6,h7⟩:=I.at e2 h3
 exact ⟨CA,ad,ds,m,h2,h3,h1,h4,h5,h6,h7⟩
set_option tactic.hygienic true in
theorem Vx (O:GOk G) (GC:GCls G) (I:Inv G C W l s S) {v r:AV} {k:Nat} {vc:Value} {Q:Value→Shared→Prop} {ex:Bool} (h:getA G.P v k s=some r) (hk:G.okA k=true) (hv:VRel G W v vc)
  (kk:∀ tk rc,VRel G W r rc→Q rc { S with toks:=tk }):wpAny (model G.prog G.w) A (getAttr vc (G.nm k) ex) Q E S:=by
 walk_at "e G C W l s S E A|O GC I|v r k vc Q ex|h hk hv kk"
 skip
 walk_at "M m174 h n h"
 refine vRef hv fun a ha=> ?_
 walk_at "m m26 h c d h e1"
 walk_at "m m22 h es h e2"
 walk_at "m m9 h Cl h hc"
 refine oEEEEAAAAAA (I.inst e1 e2 ha) fun CA ad ds m h1 h2 h3 h4 h5 h6 h7=> ?_
 refine oEAA (GC.cls c Cl hc) fun CA' g1 K _=> ?_
 rw [h1] at g1;cases g1
 have X:G.K.In S.heap:=O.kin.keeps I.base
 have It:PySem.W.InstAt S.heap a (instObj CA ad) CA (some (dictOf ds m)):=⟨h3,rfl,rfl,h4⟩
 refine oAA (K.attr k hk) fun ht hcn hat=> ?_
 have hf:=h5.find k
 split at h
 ·rename_i v hv
  rw [hv] at hf
  refine oEA hf fun cv f1 f2=> ?_
  walk_at "m m12 h h hh"
  (obtain rfl:=Qz h)
  refine get_value X It (plainGet_of (K.get (G.nm k))).1 ?_ (handed_ok hh f2) (kk _ _ f2)
  cases hp:findA k Cl.plain with
  | none=>rw [hp] at hat;exact findObj_own K.dict hat rfl f1
  | some pv=>
   rw [hp] at hat
   refine oEAAA hat fun pc p1 p2 p3 p4=> ?_
   exact findObj_own K.dict p1 (by show (specialIn G.K _ _==some none)=true;rw [p2];rfl) f1
 ·rename_i hv
  rw [hv] at hf
  rw [h] at hat
  refine oEAAA hat fun pc p1 p2 p3 p4=> ?_
  exact get_value X It (plainGet_of (K.get (G.nm k))).1 (findObj_cls K.dict p1 p2 p3 hcn hf) p3 (kk _ _ (p4 W))
theorem getL_c {name:Str} {ds:List DictEntry} (h:(getL name ds).isSome=true):(!ds.any (·.key.isStr name) && ds.any (·.refKey))=false:=by
 have key:∀ x,ds.find? (·.key.isStr name)=x→(match x with
   | some e=>some (some e.val)
   | none=>if ds.any (·.refKey) then none else some none).isSome=true→(!ds.any (·.key.isStr name) && ds.any (·.refKey))=false:=by
  intro x he h
  cases x with
  | some en=>rw [List.any_eq_true.mpr ⟨en,List.mem_of_find?_eq_some he,List.find?_some he⟩];rfl
  | none=>
   cases z:ds.any (·.refKey) with
   | true=>rw [z] at h;exact fat h
   | false=>rw [Bool.and_false]
 exact key _ rfl h
theorem osa_plain {x dx CA:Addr} {ds:List DictEntry} {n:Nat} {name:Str} {tk:Tok} {v:Value} {R:Result→Shared→Prop} (X:G.K.In S.heap) (hx:S.heap.get? x=some (instObj CA dx)) (hd:S.heap.get? dx=some (dictOf ds n))
  (hp:plainOver G.K CA=true) (ht:takerIn G.K CA name=some none) (hh:hasDictIn G.K CA=true) (hl:(getL name ds).isSome=true) (hz:(putL name (PyData.keyHash G.w.params name) (.str name S.toks) v ds).length≤1000)
  (h:∀ h',h'.get? dx=some (dictOf (putL name (PyData.keyHash G.w.params name) (.str name S.toks) v ds) (putN name ds n))→Heap.SameBut dx S.heap h'→R (.ok (.ret .none)) { S with heap:=h',toks:=S.toks+1 }):
  codeAny (model G.prog G.w) A (.call (.builtin "object.__setattr__") ⟨[.ref x,.str name tk,v],[]⟩) R S:=by
 walk_at "e G S A x dx CA ds n name tk v R|X hx hd hp ht hh hl hz h"
 have It:PySem.W.InstAt S.heap x (instObj CA dx) CA (some (dictOf ds n)):=⟨hx,rfl,rfl,hd⟩
 refine osa_open X It hp ht fun b=> ?_
 refine oEA (any_some hh) fun cd hc hd'=> ?_
 have D':(S.heap.update dx (Obj.putName name (PyData.keyHash G.w.params name) (.str name S.toks) v)).get? dx=some (dictOf (putL name (PyData.keyHash G.w.params name) (.str name S.toks) v ds) (putN name ds n)):=by
  rw [Wg _ hd (by rw [putName_dict];rfl),putName_dict]
 refine Qq (Qw (Qq (Qq (wpAny_loadPart hx (Qq ((looks_clsIn X hc).here ?_))))))
 rw [hd']
 refine Qw (a:=some dx) (Qq (Qw (Qq ?_)))
 unfold nsSet
 refine Qq (Qq (wpAny_askSetting (Qw (Qq (wpAny_mkText (Qq (wpAny_loadPart hd ?_)))))))
 rw [(rfl:(dictOf ds n).data= .dict ds.toArray n)]
 dsimp only
 rw [aRefKeyMayBeTheName_at,←Array.any_toList,←Array.any_toList]
 rw [getL_c hl]
 refine wpAny_updatePart hd ?_
 refine Qq (wpAny_lookBehind D' (pastItsLine_dict (by rw [List.size_toArray,sizeLine_eq];exact Nat.le_trans hz (by decide))) ?_)
 exact Qw (h _ D' (Wu ..))
theorem Vy (O:GOk G) (GC:GCls G) (I:Inv G C W l s S) {v x:AV} {k:Nat} {s':St} {vc xc:Value} {Q:Unit→Shared→Prop} (h:setA G.P v k x s=some s') (hk:G.okA k=true) (hv:VRel G W v vc) (hx:VRel G W x xc)
  (kk:∀ S',Inv G C W l s' S'→Q () S'):wpAny (model G.prog G.w) A (setAttr vc (G.nm k) xc) Q E S:=by
 walk_at "e G C W l s S E A|O GC I|v x k s' vc xc Q|h hk hv hx kk"
 skip
 walk_at "M m174 h n h"
 refine vRef hv fun a ha=> ?_
 walk_at "m m26 h c d h e1"
 walk_at "m m9 h Cl h hc"
 walk_at "m m22 h es h e2"
 walk_at "m m15 h es' h e3"
 walk_at "m m12 h h hz"
 have hz:=Qh hz
 rw [Zd] at hz
 refine oEEEEAAAAAA (I.inst e1 e2 ha) fun CA ad ds m h1 h2 h3 h4 h5 h6 h7=> ?_
 refine oEAA (GC.cls c Cl hc) fun CA' g1 K uu=> ?_
 rw [h1] at g1;cases g1
 have X:G.K.In S.heap:=O.kin.keeps I.base
 have It:PySem.W.InstAt S.heap a (instObj CA ad) CA (some (dictOf ds m)):=⟨h3,rfl,rfl,h4⟩
 refine oAA (K.attr k hk) fun ht hcn hat=> ?_
 have hf:=h5.find k
 have hl:(getL (G.nm k) ds).isSome=true:=by
  cases q:findA k es with
  | none=>rw [q] at hf;rw [hf];rfl
  | some y=>rw [q] at hf;refine oEA hf fun uu f1 uu=> ?_;rw [f1];rfl
 have hp:∀ tk,Attrs G W es' (putL (G.nm k) (PyData.keyHash G.w.params (G.nm k)) (.str (G.nm k) tk) xc ds):=fun tk=>h5.put e3 hx
 have hlen:∀ {es:List (Nat × AV)} {ds:List DictEntry},Attrs G W es ds→ds.length=es.length:=by
  intro es ds h;induction h with | nil=>rfl | cons _ _ ih=>simp [ih]
 refine set_plain X It K.set (osa_plain (S:={ S with toks:=S.toks+1 }) X h3 h4 K.over ht K.dict hl (by rw [hlen (hp _)];exact hz) fun h' g1 g2=> ?_)
 refine kk _ (I.upd h2 h (fun b o hb e=>(g2.2 b hb).trans e) g1 ⟨_,_,rfl,hp _,storeA_nodup e3 h6,fun e he=> ?_⟩)
 rcases storeA_mem e3 e he with q | ⟨y,q⟩
 ·rw [q];exact hk
 ·exact h7 (e.1,y) q
theorem base_emb (m:Em) (e:CE) (a:Str) (env:Env) (wh:Sem Value) (h:noCall e=true):attributeBase (embE m e) a env wh=wh:=by
 cases e <;> first | rfl | exact fat h
end
section
variable {G:Gl} {N:Nms} {Ee:Ev} {g:Nat→Bool}
theorem ev_attr (O:GOk G) (GC:GCls G) (hok:∀ k,okAttr k=true→G.okA k=true) (H:EOk G Ee) {e:CE} {a:Nat} {p:Pos} (hw:wfE g (.attr e a p)=true):EvAt G (stepE G.P N Ee) g (.attr e a p):=fun {C W l s S v s' Q X} F R I h k=>by
 replace hw:=bt2 hw
 walk_at "m m2 h x s1 h h1"
 walk_at "m m8 h r h h2"
 ((refine oA (i2 h) fun q0z q1z=> ?_;subst q0z q1z))
 refine (?_:wpAny _ _ (eval (.Attribute (embE (C.em G) e) (G.nm a) p) _) _ _ _)
 rw [arm_eval_Attribute,base_emb _ _ _ _ _ hw.2]
 refine Qq (H.ev g e hw.1.1 F R I h1 fun W1 S1 ac le1 I1 r1=>Qq (wpAny_standAt (Qq (Qg (Vx O GC I1 h2 (hok a hw.1.2) r1 fun tk rc r2=>Qq (wpAny_letTemporaryGo (Qw ?_)))))))
 exact k _ _ _ le1 I1.toks r2
end
section
variable {G:Gl} {C:Cx} {W:Wd} {l:Tr AV} {s:St} {S:Shared} {E:Value→Shared→Prop} {A:Around}
theorem keyDef1 {a:Addr} {name:String} {k:Value} {Q:Addr × Value × Option Value→Shared→Prop} (h:wpAny (model G.prog G.w) A (Builtin.Dict.notOrdered name ⟨[.ref a,k],[]⟩) (fun uu s'=>Q (a,k,none) s') E S):
  wpAny (model G.prog G.w) A (Builtin.Dict.keyAndDefault name ⟨[.ref a,k],[]⟩) Q E S:=by
 exact Qq (wpAny_mono h (fun uu uu h'=>Qw h') fun uu uu e=>e)
theorem keyDef2 {a:Addr} {name:String} {k d:Value} {Q:Addr × Value × Option Value→Shared→Prop} (h:wpAny (model G.prog G.w) A (Builtin.Dict.notOrdered name ⟨[.ref a,k,d],[]⟩) (fun uu s'=>Q (a,k,some d) s') E S):
  wpAny (model G.prog G.w) A (Builtin.Dict.keyAndDefault name ⟨[.ref a,k,d],[]⟩) Q E S:=by
 exact Qq (wpAny_mono h (fun uu uu h'=>Qw h') fun uu uu e=>e)
theorem call_get1 (P:Pins W S.heap) {a:Addr} {es:List (AV × AV)} {ep:Nat} {ds:List DictEntry} {k:AV} {kv:Value} {r:Option AV} {Q:Value→Shared→Prop} (hu:A.units+7≤cLine) (hsys:(a==sysModules)=false)
  (D:DictAtI G W S a es ep ds) (hf:find k es=some r) (hkv:VRel G W k kv)
  (h:∀ tk,match r with | some x=>∀ v,VRel G W x v→Q v { S with toks:=tk } | none=>Q .none { S with toks:=tk }):
  wpAny (model G.prog G.w) A (call (.builtin "dict.get") [.ref a,kv]) Q E S:=by
 refine Qf F.slot_dict_get D.typeIs F.entry_dict_get ?_ (F.args_dict_get_2 _ _)
 refine Qq (keyDef1 (wpAny_notOrdered_dict D.typeIs ?_))
 refine Qq (dictGet_D P (by simp;lia) D hf hkv fun tk=> ?_)
 have h:=h tk
 cases r with
 | some x=>intro v hv;exact Qw ⟨v,rfl,h v hv⟩
 | none=>
  exact Qq (wpAny_missed_other hsys (Qw ⟨.none,rfl,h⟩))
theorem call_get2 (P:Pins W S.heap) {a:Addr} {es:List (AV × AV)} {ep:Nat} {ds:List DictEntry} {k:AV} {kv dv:Value} {r:Option AV} {Q:Value→Shared→Prop} (hu:A.units+7≤cLine) (hsys:(a==sysModules)=false)
  (D:DictAtI G W S a es ep ds) (hf:find k es=some r) (hkv:VRel G W k kv)
  (h:∀ tk,match r with | some x=>∀ v,VRel G W x v→Q v { S with toks:=tk } | none=>Q dv { S with toks:=tk }):
  wpAny (model G.prog G.w) A (call (.builtin "dict.get") [.ref a,kv,dv]) Q E S:=by
 refine Qf F.slot_dict_get D.typeIs F.entry_dict_get ?_ (F.args_dict_get_3 _ _ _)
 refine Qq (keyDef2 (wpAny_notOrdered_dict D.typeIs ?_))
 refine Qq (dictGet_D P (by simp;lia) D hf hkv fun tk=> ?_)
 have h:=h tk
 cases r with
 | some x=>intro v hv;exact Qw ⟨v,rfl,h v hv⟩
 | none=>
  exact Qq (wpAny_missed_other hsys (Qw ⟨dv,rfl,h⟩))
theorem store_of_find {k d:AV} {es:List (AV × AV)} (h:find k es=some none):store k d es=some (true,es++ [(k,d)]):=by
 walk_at "m m12 h h q"
 refine gO q ?_
 clear q
 induction es with
 | nil=>rfl
 | cons e r ih=>exact zOb h (fun h uu=>son (Qz h)) fun h q=>gOf q (gBo (ih h) rfl)
theorem call_setdefault (P:Pins W S.heap) {a:Addr} {es:List (AV × AV)} {ep:Nat} {ds:List DictEntry} {k d:AV} {kv dv:Value} {r:Option AV} {Q:Value→Shared→Prop} (hu:A.units+7≤cLine) (hsys:(a==sysModules)=false)
  (D:DictAtI G W S a es ep ds) (hf:find k es=some r) (hsm:r=none→es.length≤4000) (hkv:VRel G W k kv) (hdv:VRel G W d dv)
  (h:match r with | some x=>(∀ (tk:Nat) (v:Value),VRel G W x v→Q v { S with toks:=tk }) | none=>∀ (tk:Nat) (h':Heap) (co':Obj),Heap.SameBut a S.heap h'→h'.get? a=some co'→OObj G W (.dict (es++ [(k,d)]) (ep+1)) co'→Q dv { S with heap:=h',toks:=tk }):
  wpAny (model G.prog G.w) A (call (.builtin "dict.setdefault") [.ref a,kv,dv]) Q E S:=by
 walk_at "e G W S E A|P|a es ep ds k d kv dv r Q|hu hsys D hf hsm hkv hdv h"
 have hl:=D.ents.length
 refine Qf F.slot_dict_setdefault D.typeIs F.entry_dict_setdefault ?_ (F.args_dict_setdefault_3 _ _ _)
 refine Qq (keyDef2 (wpAny_notOrdered_dict D.typeIs ?_))
 refine (?_:wpAny _ _ (if (a==sysModules)=true then _ else (dictSetDefault a kv dv >>=_)) _ _ S)
 rw [if_neg (by rw [hsys];exact Wv)]
 refine oA (find_spec hf) fun hkk hs=> ?_
 unfold dictSetDefault
 refine Qq ?_
 try with_reducible refine Qg ?_
 refine Qq (pyHash_K (s:=S) (tk:=S.toks) P 6 hkk hkv (by clear h;simp;lia) fun tk=>Qq (dictFind_D P (by clear h;simp;lia) D hkk hkv (fun hno=> ?_) fun j x hj=> ?_))
 ·cases r with
  | some x=>refine oE hs fun j hj=> ?_;exact absurd hj (hno j x)
  | none=>
   have hsm:=hsm rfl
   have ob:PutO G W k kv dv es (es++ [(k,d)]) ep ds true:=oobj_store D (store_of_find hf) hkv hdv
   have hz:ds.toArray.size≤sizeLine:=by clear h;rw [sizeLine_eq];simp;lia
   refine Qq (wpAny_rule (Qq (wpAny_updateDictKeys (hz:=hz) (s:={ S with toks:=tk }) (es:=ds.toArray) (ep:=ep) D.get rfl (Qw (Qw ⟨_,rfl,h tk _ _ (Wu ..) ?_ ob⟩)))))
   rw [Wg _ D.get (by rw [Xy];rfl),Xy]
   simp [hashK]
 ·cases r with
  | none=>exact absurd hj (hs j x)
  | some y=>
   refine oE hs fun i hi=> ?_
   have:=nodup_at D.nodup hi hj
   subst this
   rw [hj] at hi;cases hi
   refine oEEAA (D.ents.to hj) fun kv' v e1 uu e3=> ?_
   refine Qq (wpAny_dictEntries (s:={ S with toks:=tk }) (es:=ds.toArray) (ep:=ep) D.get rfl ?_)
   have:ds.toArray[i]? =some ⟨hashK G.w k,kv',v⟩:=by simpa using e1
   rw [this]
   exact Qq (wpAny_rule (Qw (Qw ⟨v,rfl,h tk v e3⟩)))
theorem insN_eq {α:Type} (v:α):∀ (l:List α) (n:Nat),n≤l.length→insN v l n=some (l.take n++v::l.drop n)
 | l,0,_=>by cases l <;> rfl
 | [],n+1,h=>absurd h (Nat.not_succ_le_zero n)
 | x::r,n+1,h=>by refine (?_:(match insN v r n with | some r=>some (x::r) | none=>none)=_);rw [insN_eq v r n (Nat.le_of_succ_le_succ h)];rfl
theorem VRels.ins {xs:List AV} {vs:List Value} (h:VRels G W xs vs) {x:AV} {v:Value} (k:VRel G W x v) (n:Nat):VRels G W (xs.take n++x::xs.drop n) (vs.take n++v::vs.drop n):=
 (h.take n).append (.cons k (h.drop n))
theorem VRels.unsnoc {xs:List AV} {x:AV} {vs:List Value} (h:VRels G W (xs++ [x]) vs):∃ us u,vs=us++ [u]∧VRels G W xs us∧VRel G W x u:=by
 induction xs generalizing vs with
 | nil=>refine vsC h fun uu uu a b=> ?_;refine vsN b ?_;exact ⟨[],_,rfl,.nil,a⟩
 | cons y xs ih=>
  cases h with
  | cons a b=>(refine oEEAA (ih b) fun us u q2z h1 h2=> ?_;subst q2z);exact ⟨_::us,u,rfl,.cons a h1,h2⟩
theorem call_insert {D:Addr} {li:List Value} {n i:Nat} {x:Int} {t:Tok} {y:Value} {Q:Value→Shared→Prop} (hg:S.heap.get? D=some { cls:= .type "list",data:= .seq li.toArray n }) (hx:x=(i:Int)) (hi:i≤li.length) (hz:li.length≤4000)
  (h:∀ h',h'.get? D=some { cls:= .type "list",data:= .seq (li.take i++y::li.drop i).toArray (n+1) }→Heap.SameBut D S.heap h'→Q .none { S with heap:=h' }):
  wpAny (model G.prog G.w) A (call (.builtin "list.insert") [.ref D,.int x t,y]) Q E S:=by
 have sz:=Zv
 have hf:Builtin.List.listFitsIndex x=true:=fitsIndex_of (by lia) (by lia)
 have e1:(if x < 0 then (x+(li.toArray.size:Int)).toNat else min x.toNat li.toArray.size)=i:=by
  rw [if_neg (by lia),List.size_toArray];lia
 clear hx
 refine call_meets PySem.F.slot_list_insert ⟨_,hg,rfl⟩ PySem.F.entry_list_insert (PySem.F.args_list_insert_3 _ _ _) (PySem.AutoSeq1.list_insert_list_int_val_1 D _ n x t y (by simp [hf]) (by rw [List.size_toArray];lia)) ⟨hg,h _ ?_ (Wu ..)⟩
 have e2:Obj.mapSeq (fun xs=>have k:=if x < 0 then (x+(xs.size:Int)).toNat else min x.toNat xs.size;(xs.extract 0 k).push y++xs.extract k) { cls:= .type "list",data:= .seq li.toArray n }={ cls:= .type "list",data:= .seq (li.take i++y::li.drop i).toArray (n+1) }:=by
  unfold Obj.mapSeq
  dsimp only
  rw [e1,PySem.W.kl_ins_eq]
  have:((li.take i++y::li.drop i).toArray.size==li.toArray.size)=false:=by simp;lia
  rw [this];rfl
 rw [Wg _ hg (by rw [e2];rfl),e2]
set_option tactic.hygienic true in
theorem lstM_sound {N:Nms} (hN:∀ p∈[(N.append,"append"),(N.pop,"pop"),(N.insert,"insert")],G.nm p.1=Str.ofString p.2) (I:Inv G C W l s S) {n m:Nat} {a:Addr} {xs args:List AV} {vs:List Value} {r:AV} {s':St}
  (e:s.h.get n=some (.list xs)) (ha:W.σ[n]? =some a) (h:lstM N n m xs args s=some (r,s')) (hv:VRels G W args vs):
  ∃ id,typeOf (.builtin id)=pure (.type "method_descriptor")∧Slot "list" (G.nm m) id∧∀ {Q:Value→Shared→Prop},(∀ S' rc,Inv G C W l s' S'→VRel G W r rc→Q rc S')→wpAny (model G.prog G.w) A (call (.builtin id) (.ref a::vs)) Q E S:=by
 walk_at "e G C W l s S E A N|hN I|n m a xs args vs r s'|e ha h hv"
 refine oEEAA (I.list e ha) fun us k hg hr hl=> ?_
 have hlen:=hr.length
 have sz:=Zv
 walk_at "m m12 h h hsm"
 have hsm:=Zf hsm
 walk_at "n zBo h"
 ·rename_i q
  have q:=Qy q
  subst q
  have en:G.nm N.append=Str.ofString "append" :=hN (N.append,"append") (by simp)
  refine ⟨"list.append",F.type_list_append,en ▸ F.slot_list_append,fun {Q} kk=> ?_⟩
  walk_at "M m44 h v h"
  rw [snoc_eq] at h
  walk_at "m m10 h s2 h h2"
  ((refine oA (i2 h) fun q0z q1z=> ?_;subst q0z q1z))
  refine vsC hv fun _ _ h1 h3=> ?_
  refine vsN h3 ?_
  refine wpAny_list_append_plain ⟨_,hg⟩ (fun h' p1 p2=> ?_) (by simp;lia)
  refine oE p1 fun k' p1=> ?_
  exact kk _ _ (I.upd ha h2 (tk:=S.toks) (fun b o hb e=>(p2.2 b hb).trans e) p1 ⟨us++ [_],k',by simp,hr.snoc h1⟩) .non
 ·walk_at "n zBo h"
  ·rename_i q
   have q:=Qy q
   subst q
   have en:G.nm N.pop=Str.ofString "pop" :=hN (N.pop,"pop") (by simp)
   refine ⟨"list.pop",F.type_list_pop,en ▸ F.slot_list_pop,fun {Q} kk=> ?_⟩
   walk_at "M m63 h h"
   walk_at "m m134 h ys v h h1"
   have:=dropLast_eq _ _ _ h1
   subst this
   walk_at "m m10 h s2 h h2"
   ((refine oA (i2 h) fun q0z q1z=> ?_;subst q0z q1z))
   refine vsN hv ?_
   (refine oEEAA (hr.unsnoc) fun ws u q2z r1 r2=> ?_;subst q2z)
   refine Copied.pop_at hg (y:=u) (by simp) (fun h' p1 p2=> ?_) (by simp at hlen hsm ⊢;lia)
   refine kk _ _ (I.upd ha h2 (tk:=S.toks) (fun b o hb e=>(p1.2 b hb).trans e) p2 ⟨ws,k+1,by simp,r1⟩) r2
  ·walk_at "m m12 h h q"
   have q:=Qy q
   subst q
   have en:G.nm N.insert=Str.ofString "insert" :=hN (N.insert,"insert") (by simp)
   refine ⟨"list.insert",F.type_list_insert,en ▸ F.slot_list_insert,fun {Q} kk=> ?_⟩
   walk_at "M m133 h i v h"
   walk_at "m m12 h h q"
   have q:=Qh q
   rw [Zd] at q
   rw [insN_eq _ _ _ q] at h
   walk_at "m m10 h s2 h h2"
   ((refine oA (i2 h) fun q0z q1z=> ?_;subst q0z q1z))
   refine vsC hv fun _ _ h1 h3=> ?_
   refine vsC h3 fun _ _ h4 h5=> ?_
   refine vsN h5 ?_
   refine vInt h1 fun t=> ?_
   refine call_insert hg rfl (by lia) (by lia) fun h' p1 p2=> ?_
   exact kk _ _ (I.upd ha h2 (tk:=S.toks) (fun b o hb e=>(p2.2 b hb).trans e) p1 ⟨_,k+1,rfl,hr.ins h4 i⟩) .non
end
structure WF where
 g:Nat→Bool
 a:Nat→Bool
 root:List Stmt
 specs:List (Nat × List Nat)
 code:Value
 ln:List String
theorem neB:Nonempty WF:=⟨⟨fun uu=>true,fun uu=>true,[],[],default,[]⟩⟩
noncomputable def isAssert:Stmt→Bool
 | .Assert _ _ _=>true
 | _=>false
theorem isAssert_inv {s:Stmt} (h:isAssert s=true):∃ t m p,s= .Assert t m p:=by cases s <;> first | exact ⟨_,_,_,rfl⟩ | exact fat h
noncomputable def notTup:CE→Bool
 | .tup _ _=>false
 | _=>true
noncomputable def wfT (w:WF):Tgt→Bool
 | .one x _=>w.a x
 | .two xs _=>xs.all fun x=>w.a x.1
noncomputable def plainIt (t:Tgt) (e:CE):Bool:=match t with
 | .two _ _=>true
 | .one _ _=>match e with
  | .calG f _ _ _=> !Nat.beq f theN.enumerate
  | .meth _ m _ _ _=> !Nat.beq m theN.items
  | _=>true
mutual
noncomputable def wfS (w:WF):CS→Bool
 | .expr e _=>wfE w.g e
 | .asgN x _ e _=>w.a x && wfE w.g e
 | .asgA o k _ e _=>wfE w.g o && wfE w.g e && okAttr k
 | .asgS o i _ e _=>wfE w.g o && wfE w.g i && wfE w.g e
 | .asgT xs _ e _=>(xs.all fun x=>w.a x.1) && wfE w.g e && notTup e
 | .augN x _ _ e _=>w.a x && wfE w.g e
 | .augA o k _ _ e _=>wfE w.g o && wfE w.g e && okAttr k
 | .augS o i _ _ e _=>wfE w.g o && wfE w.g i && wfE w.g e
 | .ife t b c _=>wfE w.g t && wfSs w b && wfSs w c
 | .whl t b c _=>wfE w.g t && wfSs w b && wfSs w c
 | .forr t e b c _=>wfT w t && wfE w.g e && wfSs w b && wfSs w c && plainIt t e
 | .ret e _=>wfO w.g e
 | .brk _ | .cont _ | .pas _=>true
 | .asrt t path _=>wfE w.g t && isAssert (stAt w.root path)
 | .spec k path=>w.specs.contains (k,path)
 | .raw _=>true
noncomputable def wfSs (w:WF):List CS→Bool
 | []=>true
 | c::r=>wfS w c && wfSs w r
end
structure Env1 (G:Gl) (C:Cx) (w:WF):Prop where
 e:Env0 G C w.g
 root:C.root=w.root
 code:C.env.code=w.code
 ln:C.ln=w.ln
 cel:∀ x nm,w.ln[x]? =some nm→w.a x=false→∃ c,C.cell x=some c
 slot:∀ x,w.a x=true→C.cell x=none∧∃ nm,C.ln[x]? =some nm
noncomputable def FRel (G:Gl) (W:Wd):Fl→Flow→Prop
 | .next,.next=>True
 | .brk,.brk=>True
 | .cont,.cont=>True
 | .ret v,.ret vc=>VRel G W v vc
 | _,_=>False
@[elab_as_elim] theorem fNx {G:Gl} {W:Wd} {m:Flow→Prop} {f:Flow} (h:FRel G W .next f) (k:m .next):m f:=by cases f <;> first | exact h.elim | exact k
@[elab_as_elim] theorem fBr {G:Gl} {W:Wd} {m:Flow→Prop} {f:Flow} (h:FRel G W .brk f) (k:m .brk):m f:=by cases f <;> first | exact h.elim | exact k
@[elab_as_elim] theorem fCo {G:Gl} {W:Wd} {m:Flow→Prop} {f:Flow} (h:FRel G W .cont f) (k:m .cont):m f:=by cases f <;> first | exact h.elim | exact k
@[elab_as_elim] theorem fRe {G:Gl} {W:Wd} {v:AV} {m:Flow→Prop} {f:Flow} (h:FRel G W (.ret v) f) (k:∀ vc,VRel G W v vc→m (.ret vc)):m f:=by cases f <;> first | exact h.elim | exact k _ h
noncomputable def ContF (G:Gl) (C:Cx) (W:Wd) (fl:Fl) (l:Lo) (s:St) (Q:Flow→Shared→Prop):Prop:=∀ W' S' f,W.le W'→Inv G C W' l.vs s S'→FRel G W' fl f→Q f S'
noncomputable def ExAt (G:Gl) (E:Ev) (w:WF) (b:List CS):Prop:=∀ {C:Cx} {W:Wd} {l:Lo} {s:St} {S:Shared} {fl:Fl} {l':Lo} {s':St} {Q:Flow→Shared→Prop} {X:Value→Shared→Prop},
 Env1 G C w→Room C l.dep→Inv G C W l.vs s S→E.exs b l s=some (fl,l',s')→(l'.dep=l.dep→ContF G C W fl l' s' Q)→wpAny (model G.prog G.w) C.A (execs (embSs (C.em G) b) C.env) Q X S
noncomputable def StAt (G:Gl) (N:Nms) (E:Ev) (w:WF) (c:CS):Prop:=∀ {C:Cx} {W:Wd} {l:Lo} {s:St} {S:Shared} {fl:Fl} {l':Lo} {s':St} {Q:Flow→Shared→Prop} {X:Value→Shared→Prop},
 Env1 G C w→Room C l.dep→Inv G C W l.vs s S→exStep G.P N E c l s=some (fl,l',s')→(l'.dep=l.dep→ContF G C W fl l' s' Q)→wpAny (model G.prog G.w) C.A (exec (embS (C.em G) c) C.env) Q X S
structure EOk2 (G:Gl) (ok:WF→Prop) (E:Ev):Prop extends EOk G E where
 ex:∀ w,ok w→∀ b,wfSs w b=true→ExAt G E w b
section
variable {G:Gl} {N:Nms} {Ee:Ev} {w:WF}
theorem Lo.set_spec {l l':Lo} {x:Nat} {v:AV} (h:l.set x v=some l'):l'.dep=l.dep∧l.vs.set x v=some l'.vs:=by
 walk_at "m m28 h t h ht"
 refine e1 h ?_;exact ⟨rfl,ht⟩
theorem Xx {C:Cx} {W:Wd} {l l':Lo} {s:St} {S:Shared} {x:Nat} {v:AV} {cv:Value} {Q:Unit→Shared→Prop} {X:Value→Shared→Prop} {A:Around} (F:Env1 G C w) (I:Inv G C W l.vs s S) (hx:w.a x=true) (hl:l.set x v=some l') (hv:VRel G W v cv)
  (k:∀ S',Inv G C W l'.vs s S'→Q () S'):wpAny (model G.prog G.w) A (storeName C.env (theLn C.ln x) cv) Q X S:=by
 refine oAE (F.slot x hx) fun hc nm hn=> ?_
 refine oEA (I.loc) fun m hm hloc=> ?_
 rw [theLn_some hn]
 have q:=F.e.loc x nm hn
 rw [hc] at q
 exact wpAny_storeName_local q hm (fun h' h1 h2=>k _ (I.bind (tk:=S.toks+1) (Lo.set_spec hl).2 hn hc F.e.nd hv hloc h1 h2)) (by simp [F.e.fn])
theorem st_expr (H:EOk2 G ok Ee) {e:CE} {p:Pos} (hw:wfS w (.expr e p)=true):StAt G N Ee w (.expr e p):=fun {C W l s S fl l' s' Q X} F R I h k=>by
 walk_at "m m2 h v s1 h h1"
 ((refine oAA (i3 h) fun q0z q1z q2z=> ?_;subst q0z q1z q2z))
 exact wpAny_Expr_any (H.ev _ e hw F.e R I h1 fun W1 S1 vc le I1 r1=>k rfl _ _ _ le I1 trivial) (by unfold interactive;simp [F.e.fn]) (swaps_emb _ _ _ _ _)
theorem st_asgN (H:EOk2 G ok Ee) {x:Nat} {e:CE} {pt p:Pos} (hw:wfS w (.asgN x pt e p)=true):StAt G N Ee w (.asgN x pt e p):=fun {C W l s S fl l' s' Q X} F R I h k=>by
 replace hw:=bt1 hw
 walk_at "m m2 h v s1 h h1"
 walk_at "m m16 h l1 h h2"
 ((refine oAA (i3 h) fun q0z q1z q2z=> ?_;subst q0z q1z q2z))
 exact wpAny_Assign_Name (H.ev _ e hw.2 F.e R I h1 fun W1 S1 vc le I1 r1=>Xx F I1 hw.1 h2 r1 fun S2 I2=>k (Lo.set_spec h2).1 _ _ _ le I2 trivial) (swaps_emb _ _ _ _ _)
theorem st_asgA (O:GOk G) (GC:GCls G) (hok:∀ k,okAttr k=true→G.okA k=true) (H:EOk2 G ok Ee) {o e:CE} {a:Nat} {pt p:Pos} (hw:wfS w (.asgA o a pt e p)=true):StAt G N Ee w (.asgA o a pt e p):=fun {C W l s S fl l' s' Q X} F R I h k=>by
 replace hw:=bt2 hw
 walk_at "m m2 h v s1 h h1"
 walk_at "m m2 h ov s2 h h2"
 walk_at "m m10 h s3 h h3"
 ((refine oAA (i3 h) fun q0z q1z q2z=> ?_;subst q0z q1z q2z))
 refine plainObj_wpAny_Assign_Attribute (H.ev _ e hw.1.2 F.e R I h1 fun W1 S1 vc le1 I1 r1=>H.ev _ o hw.1.1 F.e R I1 h2 fun W2 S2 oc le2 I2 r2=> ?_) (swaps_emb _ _ _ _ _)
 exact Vy O GC I2 h3 (hok _ hw.2) r2 (r1.mono le2) fun S' I'=>k rfl _ _ _ (le1.trans le2) I' trivial
theorem st_asgS (O:GOk G) (H:EOk2 G ok Ee) {o i e:CE} {pt p:Pos} (hw:wfS w (.asgS o i pt e p)=true):StAt G N Ee w (.asgS o i pt e p):=fun {C W l s S fl l' s' Q X} F R I h k=>by
 walk_at "e G N Ee w ok|O H|o i e pt p|hw|C W l s S fl l' s' Q X|F R I h k"
 replace hw:=bt2 hw
 walk_at "m m2 h v s1 h h1"
 walk_at "m m2 h ov s2 h h2"
 walk_at "m m2 h iv s3 h h3"
 walk_at "m m10 h s4 h h4"
 ((refine oAA (i3 h) fun q0z q1z q2z=> ?_;subst q0z q1z q2z))
 refine wpAny_Assign_Subscript (H.ev _ e hw.2 F.e R I h1 fun W1 S1 vc le1 I1 r1=>H.ev _ o hw.1.1 F.e R I1 h2 fun W2 S2 oc le2 I2 r2=>H.ev _ i hw.1.2 F.e R I2 h3 fun W3 S3 ic le3 I3 r3=> ?_) (swaps_emb _ _ _ _ _)
 exact Xu O I3 R.u7 h4 (r2.mono le3) r3 ((r1.mono le2).mono le3) fun S' I'=>k rfl _ _ _ (le1.trans (le2.trans le3)) I' trivial
set_option tactic.hygienic true in
theorem aug_sound {C:Cx} {W:Wd} {l:Tr AV} {s s':St} {S:Shared} {op:PySem.Operator} {a b r:AV} {ac bc:Value} {Q:Value→Shared→Prop} {X:Value→Shared→Prop} {A:Around} (I:Inv G C W l s S) (h:binV op a b s=some (r,s')) (ha:VRel G W a ac) (hb:VRel G W b bc)
  (k:∀ tk rc,s'=s→VRel G W r rc→Q rc { S with toks:=tk }):wpAny (model G.prog G.w) A (inplaceOp op ac bc) Q X S:=by
 walk_at "e G C W l s s' S op a b r ac bc Q X A|I h ha hb k"
 cases op <;> simp only [binV] at h <;> first | exact nos h | skip
 ·split at h
  ·rename_i i
   walk_at "M m173 h j h"
   rw [Xb] at h
   ((refine oA (i2 h) fun q0z q1z=> ?_;subst q0z q1z));refine vInt ha fun _=> ?_;refine vInt hb fun _=> ?_
   exact PyProof.Rows.iadd_int (k _ _ rfl (.int _ _))
  ·walk_at "M m173 h _ h"
   ((refine oA (i2 h) fun q0z q1z=> ?_;subst q0z q1z));refine vAin ha fun _ _=> ?_;refine vInt hb fun _=> ?_
   exact PyProof.Rows.iadd_int (k _ _ rfl (.aint _ _))
  ·exact nos h
 ·split at h
  ·rename_i i
   walk_at "M m173 h j h"
   rw [Xb] at h
   ((refine oA (i2 h) fun q0z q1z=> ?_;subst q0z q1z));refine vInt ha fun _=> ?_;refine vInt hb fun _=> ?_
   exact PyProof.Rows.isub_int (k _ _ rfl (.int _ _))
  ·walk_at "M m173 h _ h"
   ((refine oA (i2 h) fun q0z q1z=> ?_;subst q0z q1z));refine vAin ha fun _ _=> ?_;refine vInt hb fun _=> ?_
   exact PyProof.Rows.isub_int (k _ _ rfl (.aint _ _))
  ·exact nos h
theorem augV_bin {op:PySem.Operator} {a b:AV} {s:St} {r:AV × St} (h:augV op a b s=some r):binV op a b s=some r:=by
 unfold augV at h;split at h
 ·exact nos h
 ·exact h
theorem load_local {C:Cx} {W:Wd} {l:Tr AV} {s:St} {S:Shared} {x:Nat} {v:AV} {A:Around} {Q:Value→Shared→Prop} {X:Value→Shared→Prop} (F:Env1 G C w) (I:Inv G C W l s S) (hx:w.a x=true) (hl:l.get x=some v) (k:∀ vc,VRel G W v vc→Q vc S):
  wpAny (model G.prog G.w) A (loadName C.env (theLn C.ln x)) Q X S:=by
 refine oAE (F.slot x hx) fun hc nm hn=> ?_
 refine oEA (I.loc) fun m hm hloc=> ?_
 refine oEEAA (hloc x v hl) fun nm' cv h1 h2 h3=> ?_
 rw [hn] at h1;(obtain rfl:=Qz h1)
 rw [theLn_some hn]
 have q:=F.e.loc x nm hn
 unfold Cx.Has at h2
 rw [hc] at q h2
 exact wpAny_loadName_local F.e.fn q hm h2 (k cv h3)
theorem st_augN (H:EOk2 G ok Ee) {x:Nat} {e:CE} {op:PySem.Operator} {pt p:Pos} (hw:wfS w (.augN x pt op e p)=true):StAt G N Ee w (.augN x pt op e p):=fun {C W l s S fl l' s' Q X} F R I h k=>by
 walk_at "e G N Ee w ok|H|x e op pt p|hw|C W l s S fl l' s' Q X|F R I h k"
 replace hw:=bt1 hw
 walk_at "m m8 h old h h0"
 walk_at "m m2 h v s1 h h1"
 split at h
 ·exfalso
  repeat' (first | (exact nos h;done) | split at h)
 ·walk_at "m m2 h r s2 h h2"
  walk_at "m m16 h l1 h h3"
  ((refine oAA (i3 h) fun q0z q1z q2z=> ?_;subst q0z q1z q2z))
  refine wpAny_AugAssign_Name (load_local F I hw.1 h0 fun oc r0=>H.ev _ e hw.2 F.e R I h1 fun W1 S1 vc le1 I1 r1=> ?_)
  exact aug_sound I1 h2 (r0.mono le1) r1 fun tk rc e2 r2=>Xx F I1.toks hw.1 h3 r2 fun S' I'=>k (Lo.set_spec h3).1 _ _ _ le1 (e2 ▸ I') trivial
theorem st_augA (O:GOk G) (GC:GCls G) (hok:∀ k,okAttr k=true→G.okA k=true) (H:EOk2 G ok Ee) {o e:CE} {a:Nat} {op:PySem.Operator} {pt p:Pos} (hw:wfS w (.augA o a pt op e p)=true):StAt G N Ee w (.augA o a pt op e p):=fun {C W l s S fl l' s' Q X} F R I h k=>by
 walk_at "e G N Ee w ok|O GC hok H|o e a op pt p|hw|C W l s S fl l' s' Q X|F R I h k"
 replace hw:=bt2 hw
 walk_at "m m2 h ov s1 h h1"
 walk_at "m m8 h old h h2"
 walk_at "m m2 h v s2 h h3"
 walk_at "m m2 h r s3 h h4"
 walk_at "m m10 h s4 h h5"
 ((refine oAA (i3 h) fun q0z q1z q2z=> ?_;subst q0z q1z q2z))
 refine wpAny_AugAssign_AttributeAny (H.ev _ o hw.1.1 F.e R I h1 fun W1 S1 oc le1 I1 r1=> ?_)
 refine Vx O GC I1 h2 (hok _ hw.2) r1 fun tk oldc r2=>H.ev _ e hw.1.2 F.e R I1.toks h3 fun W2 S2 vc le2 I2 r3=> ?_
 refine aug_sound I2 (augV_bin h4) (r2.mono le2) r3 fun tk' rc e4 r4=> ?_
 subst e4
 exact Vy O GC I2.toks h5 (hok _ hw.2) (r1.mono le2) r4 fun S' I'=>k rfl _ _ _ (le1.trans le2) I' trivial
theorem augStore_emb (m:Em) (i:CE) (ov iv new:Value):augStore (embE m i) ov iv new=(do holding [new,ov,iv] (setItem ov iv new);release [new,ov,iv] [];pure .next):=by cases i <;> rfl
theorem st_augS (O:GOk G) (H:EOk2 G ok Ee) {o i e:CE} {op:PySem.Operator} {pt p:Pos} (hw:wfS w (.augS o i pt op e p)=true):StAt G N Ee w (.augS o i pt op e p):=fun {C W l s S fl l' s' Q X} F R I h k=>by
 walk_at "e G N Ee w ok|O H|o i e op pt p|hw|C W l s S fl l' s' Q X|F R I h k"
 replace hw:=bt2 hw
 walk_at "m m2 h ov s1 h h1"
 walk_at "m m2 h iv s2 h h2"
 walk_at "m m8 h old h h3"
 walk_at "m m2 h v s3 h h4"
 walk_at "m m2 h r s4 h h5"
 walk_at "m m10 h s5 h h6"
 ((refine oAA (i3 h) fun q0z q1z q2z=> ?_;subst q0z q1z q2z))
 refine wpAny_AugAssign_SubscriptAny (H.ev _ o hw.1.1 F.e R I h1 fun W1 S1 oc le1 I1 r1=>H.ev _ i hw.1.2 F.e R I1 h2 fun W2 S2 ic le2 I2 r2=> ?_) (augStore_emb _ _)
 refine getItem_sound I2 R.u7 h3 (r1.mono le2) r2 fun tk oldc r3=>H.ev _ e hw.2 F.e R I2.toks h4 fun W3 S3 vc le3 I3 r4=> ?_
 refine aug_sound I3 (augV_bin h5) (r3.mono le3) r4 fun tk' rc e4 r5=> ?_
 subst e4
 exact Xu O I3.toks R.u7 h6 ((r1.mono le2).mono le3) (r2.mono le3) r5 fun S' I'=>k rfl _ _ _ (le1.trans (le2.trans le3)) I' trivial
theorem st_ife (H:EOk2 G ok Ee) (hwk:ok w) {t:CE} {b c:List CS} {p:Pos} (hw:wfS w (.ife t b c p)=true):StAt G N Ee w (.ife t b c p):=fun {C W l s S fl l' s' Q X} F R I h k=>by
 replace hw:=bt2 hw
 refine zTs h (fun s1 h h1=> ?_) fun s1 h h1=> ?_
 ·exact wpAny_If (H.ts _ t hw.1.1 F.e R I h1 fun W1 S1 le1 I1=>H.ex w hwk b hw.1.2 F R I1 h fun e W2 S2 f le2 I2 r=>k e _ _ _ (le1.trans le2) I2 r)
 ·exact wpAny_If (H.ts _ t hw.1.1 F.e R I h1 fun W1 S1 le1 I1=>H.ex w hwk c hw.2 F R I1 h fun e W2 S2 f le2 I2 r=>k e _ _ _ (le1.trans le2) I2 r)
theorem st_ret (H:EOk2 G ok Ee) {e:Option CE} {p:Pos} (hw:wfS w (.ret e p)=true):StAt G N Ee w (.ret e p):=fun {C W l s S fl l' s' Q X} F R I h k=>by
 skip
 cases e with
 | none=>cases h;exact wpAny_Return_none (k rfl _ _ _ (.refl _) I .non)
 | some e=>
  walk_at "m m2 h v s1 h h1"
  ((refine oAA (i3 h) fun q0z q1z q2z=> ?_;subst q0z q1z q2z))
  exact wpAny_Return_some (H.ev _ e hw F.e R I h1 fun W1 S1 vc le I1 r1=>k rfl _ _ _ le I1 r1)
theorem st_brk {p:Pos}:StAt G N Ee w (.brk p):=fun {C W l s S fl l' s' Q X} F R I h k=>by
 ((refine oAA (i3 h) fun q0z q1z q2z=> ?_;subst q0z q1z q2z));exact wpAny_Break (k rfl _ _ _ (.refl _) I trivial)
theorem st_cont {p:Pos}:StAt G N Ee w (.cont p):=fun {C W l s S fl l' s' Q X} F R I h k=>by
 ((refine oAA (i3 h) fun q0z q1z q2z=> ?_;subst q0z q1z q2z));exact wpAny_Continue (k rfl _ _ _ (.refl _) I trivial)
theorem st_pas {p:Pos}:StAt G N Ee w (.pas p):=fun {C W l s S fl l' s' Q X} F R I h k=>by
 ((refine oAA (i3 h) fun q0z q1z q2z=> ?_;subst q0z q1z q2z));exact wpAny_Pass (k rfl _ _ _ (.refl _) I trivial)
theorem st_asrt (H:EOk2 G ok Ee) {t:CE} {path:List Nat} {p:Pos} (hw:wfS w (.asrt t path p)=true):StAt G N Ee w (.asrt t path p):=fun {C W l s S fl l' s' Q X} F R I h k=>by
 walk_at "e G N Ee w ok|H|t path p|hw|C W l s S fl l' s' Q X|F R I h k"
 replace hw:=bt1 hw
 walk_at "m m162 h s1 h h1"
 ((refine oAA (i3 h) fun q0z q1z q2z=> ?_;subst q0z q1z q2z))
 have e:∃ msg,embS (C.em G) (.asrt t path p)= .Assert (embE (C.em G) t) msg p:=by
  have hw2:=hw.2
  show ∃ msg,(match stAt C.root path with | .Assert _ msg _=>Stmt.Assert (embE (C.em G) t) msg p | s=>s)=_
  rw [F.root]
  refine oE (isAssert_inv hw2) fun t' q=>oEE q fun m' p' q=> ?_
  rw [q];exact ⟨_,rfl⟩
 refine oE e fun msg e=> ?_
 rw [e]
 exact wpAny_Assert_holds (H.ts _ t hw.1 F.e R I h1 fun W1 S1 le I1=>⟨rfl,k rfl _ _ _ le I1 trivial⟩)
theorem st_raw {path:List Nat}:StAt G N Ee w (.raw path):=fun {C W l s S fl l' s' Q X} F R I h k=>by
 exact nos h
end
noncomputable def Cx.plus (C:Cx) (ks:List (Addr × Obj)):Cx:={ C with keeps:=ks++C.keeps }
section
variable {G:Gl} {N:Nms} {Ee:Ev} {w:WF} {ok:WF→Prop}
theorem Env1.plus {C:Cx} {ks:List (Addr × Obj)} (F:Env1 G C w):Env1 G (C.plus ks) w:=
 ⟨⟨F.e.fn,F.e.loc,F.e.dbg,F.e.nd,F.e.glo,F.e.gl,F.e.bl,⟨F.e.hand.1,by obtain ⟨o,h1,h2,h3,h4,h5⟩:=F.e.hand.2;exact ⟨o,h1,h2,h3,fun e he=>by refine oAEEEEAA (h4 e he) fun q1 a ob es n q2 q3 q4=> ?_;exact ⟨q1,a,ob,es,n,q2,Wf _ q3,q4⟩,h5⟩⟩⟩,F.root,F.code,F.ln,F.cel,F.slot⟩
theorem Inv.drop {C:Cx} {ks:List (Addr × Obj)} {W:Wd} {l:Tr AV} {s:St} {S:Shared} (I:Inv G (C.plus ks) W l s S):Inv G C W l s S:=
 ⟨I.base,I.pin,fun p hp=>I.keep p (Wf _ hp),fun p hp q hq=>I.pk p hp q (Wf _ hq),fun q hq=>I.kb q (Wf _ hq),by have:=I.kn;simp only [Cx.plus,List.map_append] at this;exact (List.nodup_append.mp this).2.1,I.objs,I.len,I.nodup,I.fresh,I.loc,I.locB,I.gens,I.drawn,I.os⟩
theorem Yu (m:Em) (env:Env):∀ xs:List (Nat × Pos),assignEach (xs.map fun x=>PySem.Expr.Name (m.ln x.1) x.2) env=xs.map fun x=>(false,assign (.Name (m.ln x.1) x.2) env)
 | []=>rfl
 | x::r=>by
  refine (?_:(false,assign (.Name (m.ln x.1) x.2) env)::assignEach (r.map _) env=_)
  rw [Yu m env r];rfl
set_option tactic.hygienic true in
theorem setT_sound {C:Cx} {W:Wd} {s:St} {A:Around} {X:Value→Shared→Prop} (F:Env1 G C w):∀ (xs:List (Nat × Pos)) (vs:List AV) (us:List Value) {l l':Lo} {S:Shared} {Q:Unit→Shared→Prop},(xs.all fun x=>w.a x.1)=true→
  setT xs vs l=some l'→Inv G C W l.vs s S→VRels G W vs us→(l'.dep=l.dep→∀ S',Inv G C W l'.vs s S'→Q () S')→
  wpAny (model G.prog G.w) A (assignInOrder ((xs.map fun x=>(false,assign (.Name ((C.em G).ln x.1) x.2) C.env)).map (·.2)) us) Q X S
 | [],vs,us,l,l',S,Q,_,h,I,hr,k=>by
  cases vs with
  | cons _ _=>exact nos h
  | nil=>(obtain rfl:=Qz h);exact Qw (k rfl S I)
 | x::xs,vs,us,l,l',S,Q,hw,h,I,hr,k=>by
  cases vs with
  | nil=>exact nos h
  | cons v vs=>
   simp only [List.all_cons,Bool.and_eq_true] at hw
   walk_at "m m16 h l1 h h1"
   refine vsC hr fun _ _ r1 r2=> ?_
   rename_i u us
   refine Qq (Qg (wpAny_assign_Name (Xx F I hw.1 h1 r1 fun S1 I1=> ?_)))
   exact setT_sound F xs vs us hw.2 h I1 r2 fun e=>k (e.trans (Lo.set_spec h1).1)
theorem setT_len:∀ (xs:List (Nat × Pos)) (vs:List AV) {l l':Lo},setT xs vs l=some l'→xs.length=vs.length
 | [],[],_,_,_=>rfl
 | [],_::_,_,_,h=>by exact nos h
 | _::_,[],_,_,h=>by exact nos h
 | x::xs,v::vs,l,l',h=>by
  walk_at "m m16 h _ h _"
  simp [setT_len xs vs h]
theorem tuple_sound {C:Cx} {W:Wd} {s:St} {X:Value→Shared→Prop} (F:Env1 G C w) {xs:List (Nat × Pos)} {vs:List AV} {vc:Value} {p:Pos} {l l':Lo} {S:Shared} {Q:Unit→Shared→Prop} (hw:(xs.all fun x=>w.a x.1)=true)
  (h:setT xs vs l=some l') (I:Inv G C W l.vs s S) (hr:VRel G W (.tup vs) vc) (k:l'.dep=l.dep→∀ S',Inv G C W l'.vs s S'→Q () S'):
  wpAny (model G.prog G.w) C.A (assign (.Tuple (xs.map fun x=> .Name ((C.em G).ln x.1) x.2) 0 p) C.env vc) Q X S:=by
 (refine oEEAA (I.pins.tup hr) fun a us q2z ht r=> ?_;subst q2z)
 have hlen:=r.length
 have hn:=setT_len xs vs h
 refine oEAAE ht fun o ho hoc n hod=> ?_
 have hT:S.heap.IsTuple a us.toArray:=⟨o,ho,hoc,n,hod⟩
 refine wpAny_assign_Tuple F.e.hand.1 hT ?_ ?_ fun h' hx=> ?_
 ·rw [Yu];simp;lia
 ·rw [Yu]
  rw [List.findIdx?_eq_none_iff]
  intro x hx
  (refine oEA (List.mem_map.mp hx) fun y uu q2z=> ?_;subst q2z)
  rfl
 ·rw [Yu]
  have keep:∀ b o,S.heap.get? b=some o→h'.get? b=some o:=fun b o e=>hx b o (fun q=>by rw [q,Xw] at e;exact nos e) e
  exact setT_sound F xs vs us hw h (I.grow (tk:=S.toks) keep) r k
theorem assignAll_tuple (elts:List PySem.Expr) (p:Pos) (env:Env) (v:Value):assignAll v ((assignEach [.Tuple elts 0 p] env).map (·.2))=assign (.Tuple elts 0 p) env v:=rfl
theorem st_asgT (H:EOk2 G ok Ee) {xs:List (Nat × Pos)} {e:CE} {pt p:Pos} (hw:wfS w (.asgT xs pt e p)=true):StAt G N Ee w (.asgT xs pt e p):=fun {C W l s S fl l' s' Q X} F R I h k=>by
 walk_at "e G N Ee w ok|H|xs e pt p|hw|C W l s S fl l' s' Q X|F R I h k"
 replace hw:=bt2 hw
 walk_at "m m163 h vs s1 h h1"
 walk_at "m m16 h l1 h h2"
 ((refine oAA (i3 h) fun q0z q1z q2z=> ?_;subst q0z q1z q2z))
 have hsw:swappedStores [.Tuple (xs.map fun x=>PySem.Expr.Name ((C.em G).ln x.1) x.2) 0 pt] (embE (C.em G) e) C.env=pure none:=by
  have:=hw.2
  cases e <;> first | rfl | (exact fat this)
 have hs2:swapsWithSole [.Tuple (xs.map fun x=>PySem.Expr.Name ((C.em G).ln x.1) x.2) 0 pt] (embE (C.em G) e) p.line C.env=pure false:=by unfold swapsWithSole;exact swaps_emb (C.em G) e _ _ _
 refine wpAny_Assign_stores (H.ev _ e hw.1.2 F.e R I h1 fun W1 S1 vc le I1 r1=> ?_) hs2 hsw
 rw [assignAll_tuple]
 exact tuple_sound F hw.1.1 h2 I1 r1 fun e S' I'=>k e _ _ _ le I' trivial
theorem bindT_sound {C:Cx} {W:Wd} {s:St} {X:Value→Shared→Prop} (F:Env1 G C w) {t:Tgt} {v:AV} {vc:Value} {l l':Lo} {S:Shared} {Q:Unit→Shared→Prop} (hw:wfT w t=true)
  (h:bindT t v l=some l') (I:Inv G C W l.vs s S) (hr:VRel G W v vc) (k:l'.dep=l.dep→∀ S',Inv G C W l'.vs s S'→Q () S'):
  wpAny (model G.prog G.w) C.A (assign (embT (C.em G) t) C.env vc) Q X S:=by
 cases t with
 | one x p=>exact wpAny_assign_Name (Xx F I hw h hr (k (Lo.set_spec h).1))
 | two xs p=>
  walk_at "M m175 h _ h"
  exact tuple_sound F hw h I hr k
theorem whl_sound (H:EOk2 G ok Ee) (hwk:ok w) {t:CE} {b c:List CS} (hwt:wfE w.g t=true) (hwb:wfSs w b=true) (hwc:wfSs w c=true) {C:Cx} (F:Env1 G C w) {fl:Fl} {l':Lo} {s':St} {R:Result→Shared→Prop} {n:Nat} {W:Wd} {l:Lo} {s:St} {S:Shared}
  (Rm:Room C l.dep) (I:Inv G C W l.vs s S) (h:whlLoop Ee t b c n l s=some (fl,l',s')) (k:l'.dep=l.dep→ContF G C W fl l' s' fun f S'=>R (.ok f) S'):
  codeAny (model G.prog G.w) C.A (.whileLoop (embE (C.em G) t) (embSs (C.em G) b) (embSs (C.em G) c) C.env) R S:=by
 walk_at "e G Ee w ok|H hwk|t b c|hwt hwb hwc|C|F|fl l' s' R n W l s S|Rm I h k"
 refine codeAny_whileLoop (fun n S1=>∃ W1 l1 s1,W.le W1∧l1.dep=l.dep∧Inv G C W1 l1.vs s1 S1∧whlLoop Ee t b c n l1 s1=some (fl,l',s')) ?_ n ⟨W,l,s,.refl W,rfl,I,h⟩
 rintro n S1 ⟨W1,l1,s1,le1,e1,I1,h1⟩
 cases n with
 | zero=>exact nos h1
 | succ n=>
  refine zTs h1 (fun s2 h1 h2=> ?_) fun s2 h1 h2=> ?_
  ·walk_at "m m32 h1 fl2 l2 s3 h1 h3"
   refine H.ts _ t hwt F.e (e1 ▸ Rm) I1 h2 fun W2 S2 le2 I2=> ?_
   refine H.ex w hwk b hwb F (e1 ▸ Rm) I2 h3 fun e2 W3 S3 f le3 I3 r3=> ?_
   have le13:=le1.trans (le2.trans le3)
   have again:whlLoop Ee t b c n l2 s3=some (fl,l',s')→∃ m,m < n+1∧∃ W1 l1 s1,W.le W1∧l1.dep=l.dep∧Inv G C W1 l1.vs s1 S3∧whlLoop Ee t b c m l1 s1=some (fl,l',s'):=
    fun q=>⟨n,Wz _,W3,l2,s3,le13,e2.trans e1,I3,q⟩
   cases fl2 with
   | next=>refine fNx r3 ?_;exact again h1
   | cont=>refine fCo r3 ?_;exact again h1
   | brk=>cases h1;refine fBr r3 ?_;exact k (e2.trans e1) _ _ _ le13 I3 trivial
   | ret v=>cases h1;refine fRe r3 fun uu r3=> ?_;exact k (e2.trans e1) _ _ _ le13 I3 r3
  ·refine H.ts _ t hwt F.e (e1 ▸ Rm) I1 h2 fun W2 S2 le2 I2=> ?_
   exact H.ex w hwk c hwc F (e1 ▸ Rm) I2 h1 fun e2 W3 S3 f le3 I3 r3=>k (e2.trans e1) _ _ _ (le1.trans (le2.trans le3)) I3 r3
theorem st_whl (H:EOk2 G ok Ee) (hwk:ok w) {t:CE} {b c:List CS} {p:Pos} (hw:wfS w (.whl t b c p)=true):StAt G N Ee w (.whl t b c p):=fun {C W l s S fl l' s' Q X} F R I h k=>by
 replace hw:=bt2 hw
 refine wpAny_While (whl_sound H hwk hw.1.1 hw.1.2 hw.2 F R I h ?_)
 intro e;exact k e
noncomputable def IterO (T:String) (fs:Array Value) (o:Obj):Prop:=o.cls= .type T∧o.data= .fields fs
noncomputable def ItRel (G:Gl) (W:Wd):It→Value→List (Addr × Obj)→Prop
 | .list n i,v,ks=>∃ a ad o,v= .ref a∧W.σ[n]? =some ad∧IterO "list_iterator" #[.ref ad,.int (i:Nat) 0] o∧ks=[(a,o)]
 | .vals xs,v,ks=>∃ a t ot vs n i o,v= .ref a∧(t,ot)∈W.pin∧ot.cls= .type "tuple" ∧ot.data= .seq vs n∧VRels G W xs (vs.toList.drop i)∧IterO "tuple_iterator" #[.ref t,.int (i:Nat) 0] o∧ks=[(a,o)]
 | .keys n ep len i,v,ks=>∃ a ad o,v= .ref a∧W.σ[n]? =some ad∧IterO "dict_keyiterator" #[.ref ad,.int (i:Nat) 0,.int (len:Nat) 0,.int (ep:Nat) 0] o∧ks=[(a,o)]
 | .items n ep len i,v,ks=>∃ a ad ok ov,v= .ref a∧W.σ[n]? =some ad∧ks=[(a,{ cls:= .type "dict_itemiterator",data:= .fields #[.none,.bool false,.ref ad,.int (i:Nat) 0,.int (len:Nat) 0,.int (ep:Nat) 0,ok,ov] })]
 | .enumL n i,v,ks=>∃ e a ad old o,v= .ref e∧e≠a∧W.σ[n]? =some ad∧IterO "list_iterator" #[.ref ad,.int (i:Nat) 0] o∧ks=[(e,{ cls:= .type "enumerate",data:= .fields #[.none,.bool false,.ref a,rawInt (i:Nat),.none,old] }),(a,o)]
 | .enumT xs i,v,ks=>∃ e a t ot vs n old o,v= .ref e∧e≠a∧(t,ot)∈W.pin∧ot.cls= .type "tuple" ∧ot.data= .seq vs n∧VRels G W xs (vs.toList.drop i)∧IterO "tuple_iterator" #[.ref t,.int (i:Nat) 0] o∧
   ks=[(e,{ cls:= .type "enumerate",data:= .fields #[.none,.bool false,.ref a,rawInt (i:Nat),.none,old] }),(a,o)]
 | .range i n,v,ks=>∃ a,v= .ref a∧ks=[(a,{ cls:= .type "range_iterator",data:= .fields #[rawInt (i:Nat),rawInt ((n:Nat) - (i:Nat):Int),rawInt 1] })]
theorem ItRel.mono {G:Gl} {W W':Wd} {it:It} {v:Value} {ks:List (Addr × Obj)} (T:ItRel G W it v ks) (le:W.le W'):ItRel G W' it v ks:=by
 walk_at "e G W W' it v ks|T le"
 cases it with
 | list n i=>refine oEEEAA T fun a ad o q1 q2 q3=> ?_;exact ⟨a,ad,o,q1,le.σ _ _ q2,q3⟩
 | vals xs=>obtain ⟨a,t,ot,vs,n,i,o,q1,q2,q3,q4,q5,q6⟩:=T;exact ⟨a,t,ot,vs,n,i,o,q1,le.pin _ q2,q3,q4,q5.mono le,q6⟩
 | keys n ep len i=>refine oEEEAA T fun a ad o q1 q2 q3=> ?_;exact ⟨a,ad,o,q1,le.σ _ _ q2,q3⟩
 | items n ep len i=>refine oEEEEAA T fun a ad ok ov q1 q2 q3=> ?_;exact ⟨a,ad,ok,ov,q1,le.σ _ _ q2,q3⟩
 | enumL n i=>obtain ⟨e,a,ad,old,o,q1,q2,q3,q4⟩:=T;exact ⟨e,a,ad,old,o,q1,q2,le.σ _ _ q3,q4⟩
 | enumT xs i=>obtain ⟨e,a,t,ot,vs,n,old,o,q1,q2,q3,q4,q5,q6,q7⟩:=T;exact ⟨e,a,t,ot,vs,n,old,o,q1,q2,le.pin _ q3,q4,q5,q6.mono le,q7⟩
 | range i n=>exact T
noncomputable def itTup:It→Bool
 | .items _ _ _ _=>true
 | .enumL _ _=>true
 | .enumT _ _=>true
 | _=>false
noncomputable def isTwo:Tgt→Bool
 | .two _ _=>true
 | _=>false
noncomputable def NextK (G:Gl) (C:Cx) (W:Wd) (l:Tr AV) (s:St) (t:Tgt) (m:Em) (iv:Value) (Q:Option Value→Shared→Prop) (tup:Bool):Option (AV × It)→Prop
 | none=>∀ S',Inv G C W l s S'→Q none S'
 | some (v,it')=>itTup it'=tup→∀ S1 vc,(∀ {Q2:Unit→Shared→Prop} {X2:Value→Shared→Prop},(∀ W' S' ks',W.le W'→Inv G (C.plus ks') W' l s S'→ItRel G W' it' iv ks'→VRel G W' v vc→Q2 () S')→wpAny (model G.prog G.w) C.A (letOwnedTupleGo (embT m t) iv vc) Q2 X2 S1)→Q (some vc) S1
noncomputable def NextOk (G:Gl):Prop:=∀ {C:Cx} {W:Wd} {l:Tr AV} {s:St} {S:Shared} {it:It} {iv:Value} {ks:List (Addr × Obj)} {r:Option (AV × It)} {t:Tgt} {m:Em} {Q:Option Value→Shared→Prop} {X:Value→Shared→Prop},
 C.A.handled=none→itNext it s=some r→ItRel G W it iv ks→Inv G (C.plus ks) W l s S→(itTup it=true→isTwo t=true)→
 NextK G C W l s t m iv Q (itTup it) r→wpAny (model G.prog G.w) C.A (pyNext iv) Q X S
theorem for_sound (NX:NextOk G) (H:EOk2 G ok Ee) (hwk:ok w) {t:Tgt} {b c:List CS} (hwt:wfT w t=true) (hwb:wfSs w b=true) (hwc:wfSs w c=true) {C:Cx} (F:Env1 G C w) {fl:Fl} {l':Lo} {s':St} {R:Result→Shared→Prop} {n:Nat} {W:Wd} {l:Lo} {s:St} {S:Shared} {it:It} {iv:Value} {ks:List (Addr × Obj)}
  (Rm:Room C l.dep) (I:Inv G (C.plus ks) W l.vs s S) (T:ItRel G W it iv ks) (ht:itTup it=true→isTwo t=true) (h:forLoop Ee t b c n it l s=some (fl,l',s')) (k:l'.dep=l.dep→ContF G C W fl l' s' fun f S'=>R (.ok f) S'):
  codeAny (model G.prog G.w) C.A (.forLoop (embT (C.em G) t) iv (embSs (C.em G) b) (embSs (C.em G) c) C.env) R S:=by
 walk_at "e G Ee w ok|NX H hwk|t b c|hwt hwb hwc|C|F|fl l' s' R n W l s S it iv ks|Rm I T ht h k"
 refine codeAny_forLoop_any (fun n S1=>∃ W1 l1 s1 it1 ks1,W.le W1∧l1.dep=l.dep∧Inv G (C.plus ks1) W1 l1.vs s1 S1∧ItRel G W1 it1 iv ks1∧(itTup it1=true→isTwo t=true)∧forLoop Ee t b c n it1 l1 s1=some (fl,l',s')) ?_ n ⟨W,l,s,it,ks,.refl W,rfl,I,T,ht,h⟩
 rintro n S1 ⟨W1,l1,s1,it1,ks1,le1,e1,I1,T1,ht1,h1⟩
 cases n with
 | zero=>exact nos h1
 | succ n=>
  refine zIn h1 (fun v it2 h1 h2=> ?_) fun h1 h2=> ?_
  ·refine NX (t:=t) (m:=C.em G) F.e.hand.1 h2 T1 I1 ht1 fun etup S2 vc hgo=>hgo fun W3 S3 ks3 le3 I3 T3 r3=> ?_
   walk_at "m m16 h1 l2 h1 h4"
   refine bindT_sound (F.plus (ks:=ks3)) hwt h4 I3 r3 fun e4 S4 I4=> ?_
   walk_at "m m32 h1 fl2 l3 s3 h1 h5"
   refine H.ex w hwk b hwb (C:=C.plus ks3) (F.plus (ks:=ks3)) (show Room C l2.dep from e4 ▸ e1 ▸ Rm) I4 h5 fun e5 W5 S5 f le5 I5 r5=> ?_
   have le15:=le1.trans (le3.trans le5)
   have T5:ItRel G W5 it2 iv ks3:=T3.mono le5
   have again:forLoop Ee t b c n it2 l3 s3=some (fl,l',s')→∃ m,m < n+1∧∃ W1 l1 s1 it1 ks1,W.le W1∧l1.dep=l.dep∧Inv G (C.plus ks1) W1 l1.vs s1 S5∧ItRel G W1 it1 iv ks1∧(itTup it1=true→isTwo t=true)∧forLoop Ee t b c m it1 l1 s1=some (fl,l',s'):=
    fun q=>⟨n,Wz _,W5,l3,s3,it2,ks3,le15,e5.trans (e4.trans e1),I5,T5,fun z=>ht1 (etup ▸ z),q⟩
   cases fl2 with
   | next=>refine fNx r5 ?_;exact again h1
   | cont=>refine fCo r5 ?_;exact again h1
   | brk=>cases h1;refine fBr r5 ?_;exact k (e5.trans (e4.trans e1)) _ _ _ le15 I5.drop trivial
   | ret v=>cases h1;refine fRe r5 fun uu r5=> ?_;exact k (e5.trans (e4.trans e1)) _ _ _ le15 I5.drop r5
  ·refine NX (t:=t) (m:=C.em G) F.e.hand.1 h2 T1 I1 ht1 fun S2 I2=> ?_
   exact H.ex w hwk c hwc F (e1 ▸ Rm) I2 h1 fun e2 W3 S3 f le3 I3 r3=>k (e2.trans e1) _ _ _ (le1.trans le3) I3 r3
end
section
variable {G:Gl}
theorem Inv.turn {C:Cx} {W:Wd} {l:Tr AV} {s:St} {S:Shared} {ks ks':List (Addr × Obj)} {h':Heap} {tk:Nat} (I:Inv G (C.plus ks) W l s S) (he:ks'.map (·.1)=ks.map (·.1))
  (k:∀ b o,b ∉ ks.map (·.1)→S.heap.get? b=some o→h'.get? b=some o) (hk:∀ p∈ks',h'.get? p.1=some p.2):Inv G (C.plus ks') W l s { S with heap:=h',toks:=tk }:=by
 walk_at "e G C W l s S ks ks' h' tk|I he k hk"
 have kn:(ks.map (·.1)++C.keeps.map (·.1)).Nodup:=by have:=I.kn;simpa only [Cx.plus,List.map_append] using this
 have inKs:∀ {b:Addr},b∈ks.map (·.1)→∃ o,(b,o)∈(C.plus ks).keeps:=fun {b} hb=>by
  (refine oEA (List.mem_map.mp hb) fun p hp q2z=> ?_;subst q2z);exact ⟨p.2,List.mem_append_left _ hp⟩
 have inKs':∀ {p:Addr × Obj},p∈ks'→∃ o,(p.1,o)∈(C.plus ks).keeps:=fun {p} hp=>inKs (he ▸ List.mem_map_of_mem hp)
 refine oEA (I.loc) fun m hn hl=> ?_
 refine ⟨fun b o e=>k b o (fun q=> ?_) (I.base b o e),fun p hp=>⟨k _ _ (fun q=> ?_) (I.pin p hp).1,(I.pin p hp).2⟩,fun p hp=> ?_,fun p hp q hq=> ?_,fun q hq=> ?_,?_,fun n o e=> ?_,I.len,I.nodup,fun a ha=> ?_,⟨m,?_,hl⟩,I.locB,I.gens,I.drawn,I.os⟩
 ·refine oE (inKs q) fun o' ho=> ?_;have:=I.kb _ ho;rw [e] at this;exact son this
 ·refine oE (inKs q) fun o' ho=> ?_;exact I.pk p hp _ ho rfl
 ·rcases Zx hp with hp | hp
  ·refine oE (inKs' hp) fun o' ho=> ?_;exact ⟨.inl (hk p hp),(I.keep _ ho).2⟩
  ·have h1:=I.keep p (Wf _ hp)
   exact ⟨h1.1.map fun o e=>k _ o (fun q=>(List.nodup_append.mp kn).2.2 _ q _ (List.mem_map_of_mem hp) rfl) e,h1.2⟩
 ·rcases Zx hq with hq | hq
  ·refine oE (inKs' hq) fun o' ho=> ?_;have:=I.pk p hp (q.1,o') ho;exact this
  ·exact I.pk p hp q (Wf _ hq)
 ·rcases Zx hq with hq | hq
  ·refine oE (inKs' hq) fun o' ho=> ?_;have:=I.kb (q.1,o') ho;exact this
  ·exact I.kb q (Wf _ hq)
 ·simp only [Cx.plus,List.map_append,he];exact kn
 ·refine oEEAA (I.objs n o e) fun a co h1 h2 h3=> ?_
  exact ⟨a,co,h1,k _ _ (fun q=>by refine oE (inKs q) fun o' ho=> ?_;exact (I.keep _ ho).2.1 (Qx h1)) h2,h3⟩
 ·refine oAAE (I.fresh a ha) fun h1 h2 o h3=> ?_
  exact ⟨h1,h2,o,k _ _ (fun q=>by refine oE (inKs q) fun o' ho=> ?_;exact (I.keep _ ho).2.1 ha) h3⟩
 ·refine oEEEA hn fun o es ep h1 h2=> ?_
  exact ⟨o,es,ep,k _ _ (fun q=>by refine oE (inKs q) fun o' ho=> ?_;exact (I.keep _ ho).2.2 rfl) h1,h2⟩
theorem Inv.turnEnd {C:Cx} {W:Wd} {l:Tr AV} {s:St} {S:Shared} {ks:List (Addr × Obj)} {h':Heap} {tk:Nat} (I:Inv G (C.plus ks) W l s S)
  (k:∀ b o,b ∉ ks.map (·.1)→S.heap.get? b=some o→h'.get? b=some o):Inv G C W l s { S with heap:=h',toks:=tk }:=by
 have kn:(ks.map (·.1)++C.keeps.map (·.1)).Nodup:=by have:=I.kn;simpa only [Cx.plus,List.map_append] using this
 have inKs:∀ {b:Addr},b∈ks.map (·.1)→∃ o,(b,o)∈(C.plus ks).keeps:=fun {b} hb=>by
  (refine oEA (List.mem_map.mp hb) fun p hp q2z=> ?_;subst q2z);exact ⟨p.2,List.mem_append_left _ hp⟩
 have J:=I.drop
 refine oEA (I.loc) fun m hn hl=> ?_
 refine ⟨fun b o e=>k b o (fun q=> ?_) (I.base b o e),fun p hp=>⟨k _ _ (fun q=> ?_) (I.pin p hp).1,(I.pin p hp).2⟩,fun p hp=> ?_,J.pk,J.kb,J.kn,fun n o e=> ?_,I.len,I.nodup,fun a ha=> ?_,⟨m,?_,hl⟩,I.locB,I.gens,I.drawn,I.os⟩
 ·refine oE (inKs q) fun o' ho=> ?_;have:=I.kb _ ho;rw [e] at this;exact son this
 ·refine oE (inKs q) fun o' ho=> ?_;exact I.pk p hp _ ho rfl
 ·have h1:=J.keep p hp
  exact ⟨h1.1.map fun o e=>k _ o (fun q=>(List.nodup_append.mp kn).2.2 _ q _ (List.mem_map_of_mem hp) rfl) e,h1.2⟩
 ·refine oEEAA (I.objs n o e) fun a co h1 h2 h3=> ?_
  exact ⟨a,co,h1,k _ _ (fun q=>by refine oE (inKs q) fun o' ho=> ?_;exact (I.keep _ ho).2.1 (Qx h1)) h2,h3⟩
 ·refine oAAE (I.fresh a ha) fun h1 h2 o h3=> ?_
  exact ⟨h1,h2,o,k _ _ (fun q=>by refine oE (inKs q) fun o' ho=> ?_;exact (I.keep _ ho).2.1 ha) h3⟩
 ·refine oEEEA hn fun o es ep h1 h2=> ?_
  exact ⟨o,es,ep,k _ _ (fun q=>by refine oE (inKs q) fun o' ho=> ?_;exact (I.keep _ ho).2.2 rfl) h1,h2⟩
theorem Inv.open1 {C:Cx} {W:Wd} {l:Tr AV} {s:St} {S:Shared} {a:Addr} {o:Obj} (I:Inv G C W l s S) (hn:G.B.get? a=none∧a ∉ W.σ∧a≠C.L∧(∀ p∈W.pin,p.1≠a)∧∀ p∈C.keeps,p.1≠a) (hg:S.heap.get? a=some o):Inv G (C.plus [(a,o)]) W l s S:=by
 refine oAAAA hn fun p1 p2 p3 p4 p5=> ?_
 refine ⟨I.base,I.pin,fun p hp=> ?_,fun p hp q hq=> ?_,fun q hq=> ?_,?_,I.objs,I.len,I.nodup,I.fresh,I.loc,I.locB,I.gens,I.drawn,I.os⟩
 ·rcases Zx hp with hp | hp
  ·rw [Zw hp];exact ⟨.inl hg,p2,p3⟩
  ·exact I.keep p hp
 ·rcases Zx hq with hq | hq
  ·rw [Zw hq];exact p4 p hp
  ·exact I.pk p hp q hq
 ·rcases Zx hq with hq | hq
  ·rw [Zw hq];exact p1
  ·exact I.kb q hq
 ·simp only [Cx.plus,List.map_append]
  refine List.nodup_append.mpr ⟨by simp,I.kn,fun x hx y hy e=> ?_⟩
  (refine oEA (List.mem_map.mp hy) fun p hp q2z=> ?_;subst q2z)
  simp at hx
  exact p5 p hp (by rw [←e,hx])
section
variable {A:Around} {E:Value→Shared→Prop} {S:Shared}
set_option backward.match.sparseCases true in
theorem letGo_plain {target:PySem.Expr} {a:Addr} {o:Obj} {T:String} {v:Value} {Q:Unit→Shared→Prop} (hg:S.heap.get? a=some o) (hc:o.cls= .type T)
  (hT:["enumerate","zip","dict_itemiterator","dict_reverseitemiterator","odict_iterator","itertools.zip_longest","itertools.pairwise"].contains T=false) (h:Q () S):
  wpAny (model G.prog G.w) A (letOwnedTupleGo target (.ref a) v) Q E S:=by
 have key:∀ r:Addr,wpAny (model G.prog G.w) A (do
   let o ←load a
   match o.cls,o.data with
   | .type n,.fields vs=>
    if ["enumerate","zip","dict_itemiterator","dict_reverseitemiterator","odict_iterator","itertools.zip_longest","itertools.pairwise"].contains n && vs[0]? ==some (rawInt r) then
     rule "for.unpacks-the-owned-tuple"
     updateField a 0 .none
   | _,_=>pure ()) Q E S:=by
  intro r
  refine Qq (wpAny_load hg ?_)
  rw [hc]
  cases o.data <;> first | exact Qw h | skip
  dsimp only
  rw [hT,Bool.false_and,if_neg (by decide)]
  exact Qw h
 cases target with
 | Tuple=>cases v <;> first | exact Qw h | exact key _
 | List=>cases v <;> first | exact Qw h | exact key _
 | _=>exact Qw h
theorem keyNext_item {it d:Addr} {i ep:Nat} {ds:List DictEntry} {en:DictEntry} {Q:Option Value→Shared→Prop} (hit:S.heap.IsKeyIter it d i ds.length ep)
  (hd':S.heap.get? d=some (dictOf ds ep)) (hx:ds[i]? =some en)
  (hQ:∀ h',h'.IsKeyIter it d (i+1) ds.length ep→Heap.SameBut it S.heap h'→Q (some en.key) { S with heap:=h' }):
  wpAny (model G.prog G.w) A (pyNext (.ref it)) Q E S:=by
 walk_at "e G A E S it d i ep ds en Q|hit hd' hx hQ"
 refine oEAA (id hit) fun o ho hc hd=> ?_
 refine Qq (wpAny_attempt (Qb (name:=Str.ofString "__next__") hit.typeIs F.slot_dict_keyiterator_next
  (Qf F.slot_dict_keyiterator_next hit.typeIs F.entry_dict_keyiterator_next ?_ (F.args_dict_keyiterator_next_1 _))))
 refine Qq (Qw ?_)
 refine Qq ?_
 refine Qq ?_
 first | refine Qq (wpAny_typeNameOfWhole_keyiter hit.typeIs (Qw ?_)) | refine Qq (wpAny_typeNameOf_keyiter hit.typeIs (Qw ?_))
 refine Qq (wpAny_fieldsOf ho hd ?_)
 have hown:Builtin.Dict_items.ownsTuple "dict_keyiterator" =false:=by decide
 refine (?_:wpAny _ _ (if (Value.ref d==Value.none)=true then _ else _) _ _ S)
 rw [if_neg (show ¬((Value.ref d==Value.none)=true) from Wv)]
 refine Qq (Qw ?_)
 refine Qq (wpAny_dictEntries hd' rfl ?_)
 rw [if_neg (by simp)]
 refine Qq (Qw ?_)
 refine Qq (wpAny_dictEpoch hd' rfl ?_)
 rw [if_neg (by simp)]
 refine Qw ?_
 have hx':ds.toArray[i]? =some en:=by simpa using hx
 simp only [show ¬((i:Int) < 0) from by lia,if_false,Int.toNat_natCast,hx']
 refine Qq ?_
 first | refine Qq (wpAny_typeNameOfWhole_keyiter hit.typeIs (Qw ?_)) | refine Qq (wpAny_typeNameOf_keyiter hit.typeIs (Qw ?_))
 refine Qq (wpAny_isOneOf_keyiter hit.typeIs ?_)
 refine (?_:wpAny _ _ (setField (.ref it) 1 (rawInt ((i:Int)+1)) >>=_) _ _ S)
 refine Qq (wpAny_setField ho hd (by simp) ?_)
 have hit':(S.heap.update it (Obj.mapFields (·.setIfInBounds 1 (rawInt ((i:Int)+1))))).IsKeyIter it d (i+1) ds.length ep:=
  ⟨_,Wg _ ho (Obj.isFreed_of_fields (Obj.data_mapFields hd _)),(Obj.cls_mapFields ..).trans hc,by rw [Obj.data_mapFields hd];simp [rawInt]⟩
 refine Qq (Qg ?_)
 refine Qq (wpAny_isOneOf_keyiter (s:={ S with heap:=S.heap.update it (Obj.mapFields (·.setIfInBounds 1 (rawInt ((i:Int)+1)))) }) hit'.typeIs ?_)
 exact Qw (Qw ⟨_,rfl,Qw (hQ _ hit' (Wu ..))⟩)
theorem keyNext_end {it d:Addr} {i ep:Nat} {ds:List DictEntry} {Q:Option Value→Shared→Prop} (hh:A.handled=none) (hit:S.heap.IsKeyIter it d i ds.length ep)
  (hd':S.heap.get? d=some (dictOf ds ep)) (hx:ds[i]? =none)
  (hQ:∀ h',Heap.ExtBut it S.heap h'→Q none { S with heap:=h' }):wpAny (model G.prog G.w) A (pyNext (.ref it)) Q E S:=by
 refine oEAA (id hit) fun o ho hc hd=> ?_
 refine Qq (wpAny_attempt (Qb (name:=Str.ofString "__next__") hit.typeIs F.slot_dict_keyiterator_next
  (Qf F.slot_dict_keyiterator_next hit.typeIs F.entry_dict_keyiterator_next ?_ (F.args_dict_keyiterator_next_1 _))))
 refine Qq (Qw ?_)
 refine Qq ?_
 refine Qq ?_
 first | refine Qq (wpAny_typeNameOfWhole_keyiter hit.typeIs (Qw ?_)) | refine Qq (wpAny_typeNameOf_keyiter hit.typeIs (Qw ?_))
 refine Qq (wpAny_fieldsOf ho hd ?_)
 have hown:Builtin.Dict_items.ownsTuple "dict_keyiterator" =false:=by decide
 refine (?_:wpAny _ _ (if (Value.ref d==Value.none)=true then _ else _) _ _ S)
 rw [if_neg (show ¬((Value.ref d==Value.none)=true) from Wv)]
 refine Qq (Qw ?_)
 refine Qq (wpAny_dictEntries hd' rfl ?_)
 rw [if_neg (by simp)]
 refine Qq (Qw ?_)
 refine Qq (wpAny_dictEpoch hd' rfl ?_)
 rw [if_neg (by simp)]
 refine Qw ?_
 have hx':ds.toArray[i]? =none:=by simpa using hx
 simp only [show ¬((i:Int) < 0) from by lia,if_false,Int.toNat_natCast,hx']
 refine Qq ?_
 first | refine Qq (wpAny_typeNameOfWhole_keyiter hit.typeIs (Qw ?_)) | refine Qq (wpAny_typeNameOf_keyiter hit.typeIs (Qw ?_))
 refine (?_:wpAny _ _ (setField (.ref it) 0 .none >>=_) _ _ S)
 refine Qq (wpAny_setField ho hd (by simp) ?_)
 refine Qq ?_
 refine Qq (wpAny_newObj_type ?_ (by size_fits))
 refine Qq (m:=firstArgMember _ _) (wpAny_of_eq (a:=Value.none) (by first | rfl | (simp only [firstArgMember];rfl)) ?_)
 refine wpAny_newObj_type ?_ (by size_fits)
 refine Qq (wpAny_handled ?_)
 rw [show A.in1.handled=none from hh]
 refine Qq (Qw (wpAny_throw ?_))
 refine Qq (wpAny_isInstance (T:= "StopIteration") (b:=true) ⟨_,Heap.get?_push_size _ rfl,rfl⟩ isSubtype_stop ?_)
 exact Qw (hQ _ (((Wu ..).extBut.push _).push _))
end
end
section
variable {G:Gl} {A:Around} {E:Value→Shared→Prop} {S:Shared}
theorem itemNext_item {it d:Addr} {i ep:Nat} {ds:List DictEntry} {en:DictEntry} {ok ov:Value} {Q:Option Value→Shared→Prop} (hit:IsItemIter S.heap it d i ds.length ep ok ov)
  (hd':S.heap.get? d=some (dictOf ds ep)) (hx:ds[i]? =some en)
  (hQ:∀ h',IsItemIterOut h' it d (i+1) ds.length ep en.key en.val S.heap.objs.size→
   h'.get? S.heap.objs.size=some { cls:= .type "tuple",data:= .seq #[en.key,en.val] }→h'.objs.size=S.heap.objs.size+1→
   (∀ b o,b≠it→S.heap.get? b=some o→h'.get? b=some o)→Q (some (.ref S.heap.objs.size)) { S with heap:=h' }):
  wpAny (model G.prog G.w) A (pyNext (.ref it)) Q E S:=by
 walk_at "e G A E S it d i ep ds en ok ov Q|hit hd' hx hQ"
 obtain ⟨hp,g,dr,tk,os⟩:=S
 have hT:Shared.TypeIs ⟨hp,g,dr,tk,os⟩ (.ref it) "dict_itemiterator" :=⟨_,hit,rfl⟩
 refine Qq (wpAny_attempt (Qb (name:=Str.ofString "__next__") hT F.slot_dict_itemiterator_next
  (Qf F.slot_dict_itemiterator_next hT F.entry_dict_itemiterator_next ?_ (F.args_dict_itemiterator_next_1 _))))
 refine Qq (Qw ?_)
 refine Qq ?_
 refine Qq ?_
 first | refine Qq (wpAny_typeNameOfWhole_itemiter hT (Qw ?_)) | refine Qq (wpAny_typeNameOf_itemiter hT (Qw ?_))
 refine Qq (wpAny_fieldsOf hit rfl ?_)
 have hown:Builtin.Dict_items.ownsTuple "dict_itemiterator" =true:=by decide
 refine (?_:wpAny _ _ (if (Value.ref d==Value.none)=true then _ else _) _ _ _)
 rw [if_neg (show ¬((Value.ref d==Value.none)=true) from Wv)]
 refine Qq (Qw ?_)
 refine Qq (wpAny_dictEntries hd' rfl ?_)
 rw [if_neg (by simp)]
 refine Qq (Qw ?_)
 refine Qq (wpAny_dictEpoch hd' rfl ?_)
 rw [if_neg (by simp)]
 refine Qw ?_
 have hx':ds.toArray[i]? =some en:=by simpa using hx
 simp only [show ¬((i:Int) < 0) from by lia,if_false,Int.toNat_natCast,hx']
 refine Qq ?_
 first | refine Qq (wpAny_typeNameOfWhole_itemiter hT (Qw ?_)) | refine Qq (wpAny_typeNameOf_itemiter hT (Qw ?_))
 refine Qq (wpAny_isOneOf_itemiter hT ?_)
 refine (?_:wpAny _ _ (setField (.ref it) 3 (rawInt ((i:Int)+1)) >>=_) _ _ ⟨hp,g,dr,tk,os⟩)
 refine Qq (wpAny_setField_rec hit (by simp) fun h₁ he₁ hs₁=> ?_)
 replace hs₁:Heap.SameBut it hp h₁:=hs₁
 replace he₁:IsItemIter h₁ it d (i+1) ds.length ep ok ov:=by
  have e:((i+1:Nat):Int)=(i:Int)+1:=by lia
  unfold IsItemIter;skip;simpa [rawInt] using he₁
 have hT₁:Shared.TypeIs ⟨h₁,g,dr,tk,os⟩ (.ref it) "dict_itemiterator" :=⟨_,he₁,rfl⟩
 refine Qq (Qg ?_)
 refine Qq (wpAny_isOneOf_itemiter hT₁ ?_)
 refine Qq (wpAny_isOneOf_itemiter hT₁ ?_)
 refine Qq (wpAny_newTuple ?_)
 have he₂:IsItemIter (h₁.push { cls:= .type "tuple",data:= .seq #[en.key,en.val] }) it d (i+1) ds.length ep ok ov:=Qv _ he₁
 generalize hh₂:h₁.push { cls:= .type "tuple",data:= .seq #[en.key,en.val] }=h₂ at he₂
 have hz₁:h₁.objs.size=hp.objs.size:=hs₁.1
 have hil:it < hp.objs.size:=Heap.lt_size hit
 have ht₂:h₂.get? hp.objs.size=some { cls:= .type "tuple",data:= .seq #[en.key,en.val] }:=by rw [←hh₂,←hz₁];exact Heap.get?_push_size _ rfl
 have hz₂:h₂.objs.size=hp.objs.size+1:=by rw [←hh₂,Heap.size_push,hz₁]
 have hk₂:∀ b o,b≠it→hp.get? b=some o→h₂.get? b=some o:=fun b o hb e=>by rw [←hh₂];exact Qv _ (hs₁.extBut b o hb e)
 refine (?_:wpAny _ _ (Builtin.Dict_items.ownedTupleIsFree (.ref it) >>=_) _ _ ⟨h₂,g,dr,tk,os⟩)
 rw [hz₁]
 clear hh₂ he₁ hs₁ hT₁ hz₁ h₁
 refine Qq ?_
 refine Qq (wpAny_field he₂ rfl (x:= .none) rfl (Qw ?_))
 refine Qq (wpAny_field he₂ rfl (x:=ok) rfl ?_)
 refine Qq (wpAny_field he₂ rfl (x:=ov) rfl ?_)
 refine Qq (wpAny_setField_rec he₂ (by simp) fun h₃ he₃ hs₃=> ?_)
 replace hs₃:Heap.SameBut it h₂ h₃:=hs₃
 replace he₃:IsItemIter h₃ it d (i+1) ds.length ep en.key ov:=he₃
 refine Qq (wpAny_setField_rec he₃ (by simp) fun h₄ he₄ hs₄=> ?_)
 replace hs₄:Heap.SameBut it h₃ h₄:=hs₄
 replace he₄:IsItemIter h₄ it d (i+1) ds.length ep en.key en.val:=he₄
 refine Qq (wpAny_setField_rec he₄ (by simp) fun h₅ he₅ hs₅=> ?_)
 replace hs₅:Heap.SameBut it h₄ h₅:=hs₅
 replace he₅:IsItemIterOut h₅ it d (i+1) ds.length ep en.key en.val hp.objs.size:=he₅
 refine Qq (wpAny_setField_rec he₅ (by simp) fun h₆ he₆ hs₆=> ?_)
 replace hs₆:Heap.SameBut it h₅ h₆:=hs₆
 replace he₆:IsItemIterOut h₆ it d (i+1) ds.length ep en.key en.val hp.objs.size:=he₆
 refine Qq (wpAny_letGo (Qw (Qw ⟨_,rfl,Qw (hQ h₆ he₆ ?_ ?_ ?_)⟩)))
 ·exact hs₆.extBut _ _ (Nat.ne_of_gt hil) (hs₅.extBut _ _ (Nat.ne_of_gt hil) (hs₄.extBut _ _ (Nat.ne_of_gt hil) (hs₃.extBut _ _ (Nat.ne_of_gt hil) ht₂)))
 ·skip
  rw [hs₆.1,hs₅.1,hs₄.1,hs₃.1,hz₂]
 ·exact fun b o hb e=>hs₆.extBut b o hb (hs₅.extBut b o hb (hs₄.extBut b o hb (hs₃.extBut b o hb (hk₂ b o hb e))))
theorem itemNext_end {it d:Addr} {i ep:Nat} {ds:List DictEntry} {ok ov:Value} {Q:Option Value→Shared→Prop} (hh:A.handled=none) (hit:IsItemIter S.heap it d i ds.length ep ok ov)
  (hd':S.heap.get? d=some (dictOf ds ep)) (hx:ds[i]? =none)
  (hQ:∀ h',Heap.ExtBut it S.heap h'→Q none { S with heap:=h' }):wpAny (model G.prog G.w) A (pyNext (.ref it)) Q E S:=by
 walk_at "e G A E S it d i ep ds ok ov Q|hh hit hd' hx hQ"
 have hT:S.TypeIs (.ref it) "dict_itemiterator" :=⟨_,hit,rfl⟩
 refine Qq (wpAny_attempt (Qb (name:=Str.ofString "__next__") hT F.slot_dict_itemiterator_next
  (Qf F.slot_dict_itemiterator_next hT F.entry_dict_itemiterator_next ?_ (F.args_dict_itemiterator_next_1 _))))
 refine Qq (Qw ?_)
 refine Qq ?_
 refine Qq ?_
 first | refine Qq (wpAny_typeNameOfWhole_itemiter hT (Qw ?_)) | refine Qq (wpAny_typeNameOf_itemiter hT (Qw ?_))
 refine Qq (wpAny_fieldsOf hit rfl ?_)
 have hown:Builtin.Dict_items.ownsTuple "dict_itemiterator" =true:=by decide
 refine (?_:wpAny _ _ (if (Value.ref d==Value.none)=true then _ else _) _ _ S)
 rw [if_neg (show ¬((Value.ref d==Value.none)=true) from Wv)]
 refine Qq (Qw ?_)
 refine Qq (wpAny_dictEntries hd' rfl ?_)
 rw [if_neg (by simp)]
 refine Qq (Qw ?_)
 refine Qq (wpAny_dictEpoch hd' rfl ?_)
 rw [if_neg (by simp)]
 refine Qw ?_
 have hx':ds.toArray[i]? =none:=by simpa using hx
 simp only [show ¬((i:Int) < 0) from by lia,if_false,Int.toNat_natCast,hx']
 refine Qq ?_
 first | refine Qq (wpAny_typeNameOfWhole_itemiter hT (Qw ?_)) | refine Qq (wpAny_typeNameOf_itemiter hT (Qw ?_))
 refine (?_:wpAny _ _ (setField (.ref it) 2 .none >>=_) _ _ S)
 refine Qq (wpAny_setField hit rfl (by simp) ?_)
 refine Qq ?_
 refine Qq (wpAny_newObj_type ?_ (by size_fits))
 refine Qq (m:=firstArgMember _ _) (wpAny_of_eq (a:=Value.none) (by first | rfl | (simp only [firstArgMember];rfl)) ?_)
 refine wpAny_newObj_type ?_ (by size_fits)
 refine Qq (wpAny_handled ?_)
 rw [show A.in1.handled=none from hh]
 refine Qq (Qw (wpAny_throw ?_))
 refine Qq (wpAny_isInstance (T:= "StopIteration") (b:=true) ⟨_,Heap.get?_push_size _ rfl,rfl⟩ isSubtype_stop ?_)
 exact Qw (hQ _ (((Wu ..).extBut.push _).push _))
theorem nextOf_tuple_item {it t:Addr} {i:Nat} {items} {x:Value} {Q:Value→Shared→Prop} (hit:S.heap.IsTupleIter it t i)
  (ht:S.heap.IsTuple t items) (hx:items[i]? =some x)
  (hQ:∀ h',h'.IsTupleIter it t (i+1)→Heap.SameBut it S.heap h'→Q x { S with heap:=h' }):
  wpAny (model G.prog G.w) A (Builtin.SmallTypes.nextOf (.ref it)) Q E S:=by
 refine oEAA (id hit) fun o ho hc hd=> ?_
 refine oEAAE ht fun ol hol uu nl hdl=> ?_
 refine Qq (Qb (name:=Str.ofString "__next__") hit.typeIs F.slot_tuple_iterator_next
  (Qf F.slot_tuple_iterator_next hit.typeIs F.entry_tuple_iterator_next ?_ (F.args_tuple_iterator_next_1 _)))
 refine (?_:wpAny _ _ (field (.ref it) 0 >>=_) _ _ S)
 refine Qq (wpAny_field ho hd (x:= .ref t) rfl ?_)
 rw [if_neg (show ¬((Value.ref t==Value.none)=true) from Wv)]
 refine Qq (wpAny_field ho hd (x:= .int i 0) rfl ?_)
 refine Qq (wpAny_seqItems hol hdl ?_)
 simp only [Int.toNat_natCast,hx]
 refine Qq (wpAny_setField ho hd (by simp) (Qw ⟨x,rfl,Qw (hQ _ ?_ (Wu ..))⟩))
 exact ⟨_,Wg _ ho (Obj.isFreed_of_fields (Obj.data_mapFields hd _)),(Obj.cls_mapFields ..).trans hc,by
  rw [Obj.data_mapFields hd];simp [rawInt]⟩
theorem nextOf_tuple_end {it t:Addr} {i:Nat} {items} {Q:Value→Shared→Prop} (hh:A.handled=none)
  (hit:S.heap.IsTupleIter it t i) (ht:S.heap.IsTuple t items) (hx:items[i]? =none)
  (hE:∀ h' e,Heap.ExtBut it S.heap h'→(∃ o,h'.get? e=some o∧o.cls= .type "StopIteration")→E (.ref e) { S with heap:=h' }):
  wpAny (model G.prog G.w) A (Builtin.SmallTypes.nextOf (.ref it)) Q E S:=by
 walk_at "e G A E S it t i items Q|hh hit ht hx hE"
 refine oEAA (id hit) fun o ho hc hd=> ?_
 refine oEAAE ht fun ol hol uu nl hdl=> ?_
 refine Qq (Qb (name:=Str.ofString "__next__") hit.typeIs F.slot_tuple_iterator_next
  (Qf F.slot_tuple_iterator_next hit.typeIs F.entry_tuple_iterator_next ?_ (F.args_tuple_iterator_next_1 _)))
 refine (?_:wpAny _ _ (field (.ref it) 0 >>=_) _ _ S)
 refine Qq (wpAny_field ho hd (x:= .ref t) rfl ?_)
 rw [if_neg (show ¬((Value.ref t==Value.none)=true) from Wv)]
 refine Qq (wpAny_field ho hd (x:= .int i 0) rfl ?_)
 refine Qq (wpAny_seqItems hol hdl ?_)
 simp only [Int.toNat_natCast,hx]
 refine Qq (wpAny_rule (Qq (wpAny_setField ho hd (by simp) ?_)))
 refine Qq ?_
 refine Qq (wpAny_newObj_type ?_ (by size_fits))
 refine Qq (m:=firstArgMember _ _) (wpAny_of_eq (a:=Value.none) (by first | rfl | (simp only [firstArgMember];rfl)) ?_)
 refine wpAny_newObj_type ?_ (by size_fits)
 refine Qq (wpAny_handled ?_)
 first | rw [show A.in1.handled=none from hh] | rw [hh]
 refine Qq (Qw (wpAny_throw ?_))
 exact hE _ _ (((Wu ..).extBut.push _).push _) ⟨_,Heap.get?_push_size _ rfl,rfl⟩
theorem drawsTuple (hh:A.handled=none) (it t:Addr) (items:Array Value):Draws G.prog G.w A it [it,t] items.size (fun i v=>items[i]? =some v) (fun i h=>h.IsTupleIter it t i∧h.IsTuple t items) where
 live:=fun i h ⟨⟨o,ho,_⟩,_⟩=>⟨o,ho⟩
 frame:=fun i h h' ⟨⟨o,ho,r⟩,⟨o2,ho2,r2⟩⟩ hk=>⟨⟨o,hk it (by simp) _ ho,r⟩,⟨o2,hk t (by simp) _ ho2,r2⟩⟩
 item:=fun i s Q E hi ⟨h1,h2⟩ hQ=>by
  have hx:items[i]? =some items[i]:=Array.getElem?_eq_getElem hi
  have hne:t≠it:=by
   rintro rfl
   refine oEAA h1 fun o ho hc uu=> ?_
   refine oEAA h2 fun o' ho' hc' uu=> ?_
   rw [ho] at ho';(obtain rfl:=Qz ho');rw [hc] at hc';simp at hc'
  refine nextOf_tuple_item h1 h2 hx fun h' a b=>hQ _ h' s.toks hx ⟨a,?_⟩ b
  refine oEA h2 fun o ho r=> ?_
  exact ⟨o,(b.2 t hne).trans ho,r⟩
 done:=fun s Q E ⟨h1,h2⟩ hE=>nextOf_tuple_end hh h1 h2 (by simp) hE
end
section
variable {G:Gl}
theorem keep1 {C:Cx} {W:Wd} {l:Tr AV} {s:St} {S:Shared} {ks:List (Addr × Obj)} (I:Inv G (C.plus ks) W l s S) {p:Addr × Obj} (hp:p∈ks) (hn:∀ es n,p.2.data≠ .dict es n):S.heap.get? p.1=some p.2:=(I.keep p (List.mem_append_left _ hp)).1.exact hn
theorem same1 {a b:Addr} {o o':Obj} {h h':Heap} (hs:Heap.SameBut a h h') (hb:b ∉ [(a,o')].map (·.1)) (e:h.get? b=some o):h'.get? b=some o:=(hs.2 b (fun q=>hb (by simp [q]))).trans e
theorem ext1 {a b:Addr} {o o':Obj} {h h':Heap} (hs:Heap.ExtBut a h h') (hb:b ∉ [(a,o')].map (·.1)) (e:h.get? b=some o):h'.get? b=some o:=hs b o (fun q=>hb (by simp [q])) e
theorem drop_get {xs:List AV} {vs:Array Value} {W:Wd} {x:AV} {r:List AV} {i:Nat} (h:VRels G W (x::r) (vs.toList.drop i)):∃ v,vs[i]? =some v∧VRel G W x v∧VRels G W r (vs.toList.drop (i+1)):=by
 generalize hq:vs.toList.drop i=us at h
 cases h with
 | @cons _ v _ us h1 h2=>
  have e1:vs.toList[i]? =some v:=by
   have:=congrArg (·[0]?) hq
   simpa using this
  refine ⟨v,by simpa using e1,h1,?_⟩
  have:vs.toList.drop (i+1)=us:=by
   have:=congrArg (List.drop 1) hq
   simpa [Nat.add_comm] using this
  rw [this];exact h2
theorem drop_end {vs:Array Value} {W:Wd} {i:Nat} (h:VRels G W [] (vs.toList.drop i)):vs[i]? =none:=by
 generalize hq:vs.toList.drop i=us at h
 (have e0:=isN h;clear h;subst e0)
 have:vs.toList.length≤i:=by simpa using hq
 simpa using this
set_option tactic.hygienic true in
theorem next_list {C:Cx} {W:Wd} {l:Tr AV} {s:St} {S:Shared} {n i:Nat} {iv:Value} {ks:List (Addr × Obj)} {r:Option (AV × It)} {t:Tgt} {m:Em} {Q:Option Value→Shared→Prop} {X:Value→Shared→Prop}
  (hh:C.A.handled=none) (h:itNext (.list n i) s=some r) (T:ItRel G W (.list n i) iv ks) (I:Inv G (C.plus ks) W l s S)
  (k:NextK G C W l s t m iv Q (itTup (.list n i)) r):
  wpAny (model G.prog G.w) C.A (pyNext iv) Q X S:=by
 obtain ⟨a,ad,o,rfl,h2,⟨h3,h4⟩,rfl⟩:=T
 have hg:=keep1 I (p:=(a,o)) (by simp) (by intro es n;rw [h4];rintro ⟨⟩)
 have hit:S.heap.IsListIter a ad i:=⟨o,hg,h3,h4⟩
 walk_at "m m73 h xs h e"
 refine oEEAA (I.list e h2) fun vs k' hgl hr hl=> ?_
 rw [Yb] at h
 split at h
 ·rename_i v hv
  rw [Zk] at h
  (obtain rfl:=Qz h)
  refine oEA (hr.get hv) fun x hx hxr=> ?_
  refine wpAny_pyNext_list_item hit hl (by simpa using hx) fun h' p1 p2=>k rfl _ _ fun {Q2 X2} kk=> ?_
  refine oEAA p1 fun o' q1 q2 q3=> ?_
  refine letGo_plain q1 q2 (by decide) (kk W _ [(a,o')] (.refl W) (I.turn (tk:=S.toks) rfl (fun b ob hb e=>same1 p2 hb e) ?_) ⟨a,ad,o',rfl,h2,⟨q2,q3⟩,rfl⟩ hxr)
  intro p hp;rw [Zw hp];exact q1
 ·rename_i hv
  (obtain rfl:=Qz h)
  have:vs[i]? =none:=by
   have:=hr.length
   rw [List.getElem?_eq_none_iff] at hv ⊢;lia
  exact wpAny_pyNext_list_end hh hit hl (by simpa using this) fun h' p1=>k _ (I.turnEnd (tk:=S.toks) fun b ob hb e=>ext1 p1 hb e)
set_option tactic.hygienic true in
theorem next_vals {C:Cx} {W:Wd} {l:Tr AV} {s:St} {S:Shared} {xs:List AV} {iv:Value} {ks:List (Addr × Obj)} {r:Option (AV × It)} {t:Tgt} {m:Em} {Q:Option Value→Shared→Prop} {X:Value→Shared→Prop}
  (hh:C.A.handled=none) (h:itNext (.vals xs) s=some r) (T:ItRel G W (.vals xs) iv ks) (I:Inv G (C.plus ks) W l s S)
  (k:NextK G C W l s t m iv Q (itTup (.vals xs)) r):
  wpAny (model G.prog G.w) C.A (pyNext iv) Q X S:=by
 obtain ⟨a,tu,ot,vs,n,i,o,rfl,h2,h3,h4,h5,⟨h6,h7⟩,rfl⟩:=T
 have hg:=keep1 I (p:=(a,o)) (by simp) (by intro es n;rw [h7];rintro ⟨⟩)
 have hit:S.heap.IsTupleIter a tu i:=⟨o,hg,h6,h7⟩
 have ht:S.heap.IsTuple tu vs:=⟨ot,(I.pin _ h2).1,h3,n,h4⟩
 conv at h=>lhs;whnf
 split at h
 ·(obtain rfl:=Qz h)
  exact wpAny_pyNext_tuple_end hh hit ht (drop_end h5) fun h' p1=>k _ (I.turnEnd (tk:=S.toks) fun b ob hb e=>ext1 p1 hb e)
 ·rename_i v rest
  (obtain rfl:=Qz h)
  refine oEAA (drop_get (xs:=[]) h5) fun x hx hxr hrest=> ?_
  refine wpAny_pyNext_tuple_item hit ht hx fun h' p1 p2=>k rfl _ _ fun {Q2 X2} kk=> ?_
  refine oEAA p1 fun o' q1 q2 q3=> ?_
  refine letGo_plain q1 q2 (by decide) (kk W _ [(a,o')] (.refl W) (I.turn (tk:=S.toks) rfl (fun b ob hb e=>same1 p2 hb e) ?_) ⟨a,tu,ot,vs,n,i+1,o',rfl,h2,h3,h4,hrest,⟨q2,q3⟩,rfl⟩ hxr)
  intro p hp;rw [Zw hp];exact q1
set_option tactic.hygienic true in
theorem next_keys {C:Cx} {W:Wd} {l:Tr AV} {s:St} {S:Shared} {n ep len i:Nat} {iv:Value} {ks:List (Addr × Obj)} {r:Option (AV × It)} {t:Tgt} {m:Em} {Q:Option Value→Shared→Prop} {X:Value→Shared→Prop}
  (hh:C.A.handled=none) (h:itNext (.keys n ep len i) s=some r) (T:ItRel G W (.keys n ep len i) iv ks) (I:Inv G (C.plus ks) W l s S)
  (k:NextK G C W l s t m iv Q (itTup (.keys n ep len i)) r):
  wpAny (model G.prog G.w) C.A (pyNext iv) Q X S:=by
 obtain ⟨a,ad,o,rfl,h2,⟨h3,h4⟩,rfl⟩:=T
 have hg:=keep1 I (p:=(a,o)) (by simp) (by intro es n;rw [h4];rintro ⟨⟩)
 walk_at "m m19 h es ep' h e"
 refine oE (I.dict e h2) fun ds D=> ?_
 have hl:=D.ents.length
 walk_at "m m12 h h q"
 have q:=Qy q
 subst q
 walk_at "m m12 h h q"
 have q:=Qy q
 rw [Zd] at q
 have q:len=ds.length:=q.trans hl.symm
 subst q
 have hit:S.heap.IsKeyIter a ad i ds.length ep:=⟨o,hg,h3,h4⟩
 rw [Yb] at h
 split at h
 ·rename_i hv
  (obtain rfl:=Qz h)
  have:ds[i]? =none:=by rw [List.getElem?_eq_none_iff] at hv ⊢;rw [hl];exact hv
  exact keyNext_end hh hit D.get this fun h' p1=>k _ (I.turnEnd (tk:=S.toks) fun b ob hb e=>ext1 p1 hb e)
 ·rename_i en hv
  rw [Zk] at h
  (obtain rfl:=Qz h)
  refine oEEAA (D.ents.to (k:=en.1) (x:=en.2) (by simpa using hv)) fun kv v e1 e2 e3=> ?_
  refine keyNext_item hit D.get e1 fun h' p1 p2=>k rfl _ _ fun {Q2 X2} kk=> ?_
  refine oEAA p1 fun o' q1 q2 q3=> ?_
  refine letGo_plain q1 q2 (by decide) (kk W _ [(a,o')] (.refl W) (I.turn (tk:=S.toks) rfl (fun b ob hb e=>same1 p2 hb e) ?_) ⟨a,ad,o',rfl,h2,⟨q2,q3⟩,rfl⟩ e2)
  intro p hp;rw [Zw hp];exact q1
set_option tactic.hygienic true in
theorem next_range {C:Cx} {W:Wd} {l:Tr AV} {s:St} {S:Shared} {n i:Nat} {iv:Value} {ks:List (Addr × Obj)} {r:Option (AV × It)} {t:Tgt} {m:Em} {Q:Option Value→Shared→Prop} {X:Value→Shared→Prop}
  (hh:C.A.handled=none) (h:itNext (.range i n) s=some r) (T:ItRel G W (.range i n) iv ks) (I:Inv G (C.plus ks) W l s S)
  (k:NextK G C W l s t m iv Q (itTup (.range i n)) r):
  wpAny (model G.prog G.w) C.A (pyNext iv) Q X S:=by
 (refine oEA T fun a q1z q2z=> ?_;clear T;subst q1z q2z)
 have hit:IsRangeIter S.heap a (i:Nat) ((n:Nat) - (i:Nat):Int) 1:=keep1 I (p:=(a,_)) (by simp) (by rintro es n ⟨⟩)
 walk_at "n zBo h"
 ·rename_i q
  have q:i < n:=by
   have:=Nat.blt_eq.mp q;exact this
  rw [Zk] at h
  (obtain rfl:=Qz h)
  refine wpAny_pyNext_range_item hit (by lia) fun h' p1 p2=>k rfl _ _ fun {Q2 X2} kk=> ?_
  have p1:h'.get? a=some { cls:= .type "range_iterator",data:= .fields #[rawInt ((i+1:Nat):Int),rawInt ((n:Nat) - ((i+1:Nat):Int):Int),rawInt 1] }:=by
   have e1:((i+1:Nat):Int)=(i:Int)+1:=by lia
   have e2:((n:Nat) - ((i+1:Nat):Int):Int)=(n:Int) - (i:Int) - 1:=by lia
   rw [e2,e1];exact p1
  refine letGo_plain p1 rfl (by decide) (kk W _ [(a,{ cls:= .type "range_iterator",data:= .fields #[rawInt ((i+1:Nat):Int),rawInt ((n:Nat) - ((i+1:Nat):Int):Int),rawInt 1] })] (.refl W) (I.turn (tk:=S.toks+1) rfl (fun b ob hb e=>same1 p2 hb e) ?_) ⟨a,rfl,rfl⟩ (.int _ _))
  intro p hp;rw [Zw hp];exact p1
 ·rename_i q
  (obtain rfl:=Qz h)
  have q:¬i < n:=fun z=>by rw [Nat.blt_eq.mpr z] at q;exact taf q
  exact wpAny_pyNext_range_end hh hit (by lia) fun h' p1=>k _ (I.turnEnd (tk:=S.toks) fun b ob hb e=>ext1 p1 hb e)
theorem letGo_two {t:Tgt} (ht:isTwo t=true) {m:Em} {iv vc:Value}:∃ elts p,embT m t= .Tuple elts 0 p:=by
 cases t with
 | one x p=>exact fat ht
 | two xs p=>exact ⟨_,_,rfl⟩
set_option tactic.hygienic true in
theorem next_items {C:Cx} {W:Wd} {l:Tr AV} {s:St} {S:Shared} {n ep len i:Nat} {iv:Value} {ks:List (Addr × Obj)} {r:Option (AV × It)} {t:Tgt} {m:Em} {Q:Option Value→Shared→Prop} {X:Value→Shared→Prop}
  (hh:C.A.handled=none) (h:itNext (.items n ep len i) s=some r) (T:ItRel G W (.items n ep len i) iv ks) (I:Inv G (C.plus ks) W l s S) (h2t:isTwo t=true)
  (k:NextK G C W l s t m iv Q (itTup (.items n ep len i)) r):
  wpAny (model G.prog G.w) C.A (pyNext iv) Q X S:=by
 (refine oEEEEAA T fun a ad ok ov q4z h2 q6z=> ?_;clear T;subst q4z q6z)
 have hg:=keep1 I (p:=(a,_)) (List.mem_singleton_self _) (by rintro es n ⟨⟩)
 walk_at "m m19 h es ep' h e"
 refine oE (I.dict e h2) fun ds D=> ?_
 have hl:=D.ents.length
 walk_at "m m12 h h q"
 have q:=Qy q
 subst q
 walk_at "m m12 h h q"
 have q:=Qy q
 rw [Zd] at q
 have q:len=ds.length:=q.trans hl.symm
 subst q
 have hit:IsItemIter S.heap a ad i ds.length ep ok ov:=hg
 rw [Yb] at h
 split at h
 ·rename_i hv
  (obtain rfl:=Qz h)
  have:ds[i]? =none:=by rw [List.getElem?_eq_none_iff] at hv ⊢;rw [hl];exact hv
  exact itemNext_end hh hit D.get this fun h' p1=>k _ (I.turnEnd (tk:=S.toks) fun b ob hb e=>ext1 p1 hb e)
 ·rename_i en hv
  rw [Zk] at h
  (obtain rfl:=Qz h)
  refine oEEAA (D.ents.to (k:=en.1) (x:=en.2) (by simpa using hv)) fun kv v e1 e2 e3=> ?_
  refine itemNext_item hit D.get e1 fun h' p1 p2 p3 p4=>k rfl _ _ fun {Q2 X2} kk=> ?_
  refine oEE (letGo_two h2t (m:=m) (iv:= .none) (vc:= .none)) fun elts p et=> ?_
  rw [et]
  refine wpAny_letOwnedTupleGo_items p1 fun h'' g1 g2=> ?_
  have g2:Heap.SameBut a h' h'':=g2
  have lt:a < S.heap.objs.size:=Heap.lt_size hg
  have hT:h''.get? S.heap.objs.size=some { cls:= .type "tuple",data:= .seq #[kv,v] }:=(g2.2 _ (Nat.ne_of_gt lt)).trans p2
  have keep:∀ b ob,b ∉ [(a,({ cls:= .type "dict_itemiterator",data:= .fields #[.none,.bool false,.ref ad,.int (i:Nat) 0,.int (ds.length:Nat) 0,.int (ep:Nat) 0,ok,ov] }:Obj))].map (·.1)→S.heap.get? b=some ob→h''.get? b=some ob:=fun b ob hb e=>by
   have hb:b≠a:=fun q=>hb (by simp [q])
   exact (g2.2 b hb).trans (p4 b ob hb e)
  have J:Inv G (C.plus [(a,{ cls:= .type "dict_itemiterator",data:= .fields #[.none,.bool false,.ref ad,.int ((i+1:Nat):Int) 0,.int (ds.length:Nat) 0,.int (ep:Nat) 0,kv,v] })]) W l s { S with heap:=h'',toks:=S.toks }:=
   I.turn (tk:=S.toks) rfl keep fun p hp=>by rw [Zw hp];exact g1
  have ap:=I.apart (Xw S.heap)
  have J2:=J.pinned (a:=S.heap.objs.size) hT ap.2.1 ap.2.2.1 (fun q hq=>by
   rcases Zx hq with hq | hq
   ·rw [Zw hq];exact Nat.ne_of_lt lt
   ·exact ap.2.2.2.2 q (Wf _ hq))
  exact kk _ _ _ (W.le_pin _) J2 ⟨a,ad,kv,v,rfl,h2,rfl⟩ (.tup (Qk ..) rfl rfl (.cons (e2.mono (W.le_pin _)) (.cons (e3.mono (W.le_pin _)) .nil)))
theorem next_enum {C:Cx} {W:Wd} {l:Tr AV} {s:St} {S:Shared} {e it:Addr} {fp:List Addr} {items:Array Value} {St:Nat→Heap→Prop} {i:Nat} {old:Value} {o:Obj} {t:Tgt} {m:Em} {Q:Option Value→Shared→Prop} {X:Value→Shared→Prop} {T:String} {f:Nat→Array Value} {v:AV} {x:Value}
  (D:Draws G.prog G.w C.A.in1 it fp items.size (fun i v=>items[i]? =some v) St) (hSt:∀ j h,St j h→∃ o,h.get? it=some o∧IterO T (f j) o) (hne:e≠it) (hef:e ∉ fp)
  (I:Inv G (C.plus [(e,{ cls:= .type "enumerate",data:= .fields #[.none,.bool false,.ref it,rawInt (i:Nat),.none,old] }),(it,o)]) W l s S) (h2t:isTwo t=true) (hst:St i S.heap) (hx:items[i]? =some x) (hxr:VRel G W v x)
  (k:∀ S1 vc,(∀ {Q2:Unit→Shared→Prop} {X2:Value→Shared→Prop},(∀ W' S' o' x',W.le W'→Inv G (C.plus [(e,{ cls:= .type "enumerate",data:= .fields #[.none,.bool false,.ref it,rawInt ((i+1:Nat):Int),.none,x'] }),(it,o')]) W' l s S'→IterO T (f (i+1)) o'→VRel G W' (.tup [.int (.ofNat i),v]) vc→Q2 () S')→wpAny (model G.prog G.w) C.A (letOwnedTupleGo (embT m t) (.ref e) vc) Q2 X2 S1)→Q (some vc) S1):
  wpAny (model G.prog G.w) C.A (pyNext (.ref e)) Q X S:=by
 have he:IsEnum S.heap e it i old:=keep1 I (p:=(e,_)) (by simp) (by rintro es n ⟨⟩)
 have hlt:i < items.size:=(Array.getElem?_eq_some_iff.mp hx).1
 refine wpAny_pyNext_enum_itemD D he hst hlt hne hef fun x' h' tk hP p1 p2 p3 p4 p5=> ?_
 have ex:x'=x:=by rw [hx] at hP;exact (Qz hP).symm
 subst ex
 refine k _ _ fun {Q2 X2} kk=> ?_
 refine oEE (letGo_two h2t (m:=m) (iv:= .none) (vc:= .none)) fun elts p et=> ?_
 rw [et]
 refine wpAny_letOwnedTupleGo_enum p1 fun h'' g1 g2=> ?_
 have g2:Heap.SameBut e h' h'':=g2
 have lt:e < S.heap.objs.size:=Heap.lt_size he
 refine oEA (hSt _ _ hst) fun oit hio uu=> ?_
 have lt2:it < S.heap.objs.size:=Heap.lt_size hio
 have hT:h''.get? S.heap.objs.size=some { cls:= .type "tuple",data:= .seq #[.int i tk,x'] }:=(g2.2 _ (Nat.ne_of_gt lt)).trans p3
 have st2:St (i+1) h'':=D.frame _ _ _ p2 fun b hb ob y=>(g2.2 b fun q=>hef (q ▸ hb)).trans y
 refine oEA (hSt _ _ st2) fun o' q1 q2=> ?_
 have keep:∀ b ob,b ∉ [(e,({ cls:= .type "enumerate",data:= .fields #[.none,.bool false,.ref it,rawInt (i:Nat),.none,old] }:Obj)),(it,o)].map (·.1)→S.heap.get? b=some ob→h''.get? b=some ob:=fun b ob hb y=>by
  have hb1:b≠e:=fun q=>hb (by simp [q])
  have hb2:b≠it:=fun q=>hb (by simp [q])
  exact (g2.2 b hb1).trans (p5 b ob hb1 hb2 y)
 have g1:h''.get? e=some { cls:= .type "enumerate",data:= .fields #[.none,.bool false,.ref it,rawInt ((i+1:Nat):Int),.none,x'] }:=by
  have e1:((i+1:Nat):Int)=(i:Int)+1:=by lia
  rw [e1];exact g1
 have J:Inv G (C.plus [(e,{ cls:= .type "enumerate",data:= .fields #[.none,.bool false,.ref it,rawInt ((i+1:Nat):Int),.none,x'] }),(it,o')]) W l s { S with heap:=h'',toks:=tk+1 }:=
  I.turn (tk:=tk+1) rfl keep fun p hp=>by
   rcases Zq hp with rfl | hp
   ·exact g1
   ·rw [Zw hp];exact q1
 have ap:=I.apart (Xw S.heap)
 have J2:=J.pinned (a:=S.heap.objs.size) hT ap.2.1 ap.2.2.1 (fun q hq=>by
  rcases Zx hq with hq | hq
  ·rcases Zq hq with rfl | hq
   ·exact Nat.ne_of_lt lt
   ·rw [Zw hq];exact Nat.ne_of_lt lt2
  ·exact ap.2.2.2.2 q (Wf _ hq))
 exact kk _ _ o' x' (W.le_pin _) J2 q2 (.tup (Qk ..) rfl rfl (.cons (.int _ _) (.cons (hxr.mono (W.le_pin _)) .nil)))
end
end
section
open PySem PySem.W PyProof.Rows PySem.SeqAt open AutoSeq1 (wpAny_loadPart')
section
variable {G:Gl}
set_option tactic.hygienic true in
theorem next_enumL {C:Cx} {W:Wd} {l:Tr AV} {s:St} {S:Shared} {n i:Nat} {iv:Value} {ks:List (Addr × Obj)} {r:Option (AV × It)} {t:Tgt} {m:Em} {Q:Option Value→Shared→Prop} {X:Value→Shared→Prop}
  (hh:C.A.handled=none) (h:itNext (.enumL n i) s=some r) (T:ItRel G W (.enumL n i) iv ks) (I:Inv G (C.plus ks) W l s S) (h2t:isTwo t=true)
  (k:NextK G C W l s t m iv Q (itTup (.enumL n i)) r):
  wpAny (model G.prog G.w) C.A (pyNext iv) Q X S:=by
 obtain ⟨e,a,ad,old,o,rfl,hne,h2,⟨h3,h4⟩,rfl⟩:=T
 have hg:=keep1 I (p:=(a,o)) (by simp) (by intro es n;rw [h4];rintro ⟨⟩)
 have hge:=keep1 I (p:=(e,_)) (Qk ..) (by rintro es n ⟨⟩)
 have hit:S.heap.IsListIter a ad i:=⟨o,hg,h3,h4⟩
 have hσ:∀ p∈[(e,({ cls:= .type "enumerate",data:= .fields #[.none,.bool false,.ref a,rawInt (i:Nat),.none,old] }:Obj)),(a,o)],p.1≠ad:=fun p hp q=>(I.keep p (List.mem_append_left _ hp)).2.1 (q ▸ Qx h2)
 walk_at "m m73 h xs h e1"
 refine oEEAA (I.list e1 h2) fun vs k' hgl hr hl=> ?_
 rw [Yb] at h
 split at h
 ·rename_i v hv
  rw [Zk] at h
  (obtain rfl:=Qz h)
  refine oEA (hr.get hv) fun x hx hxr=> ?_
  refine next_enum (T:= "list_iterator") (f:=fun j=> #[.ref ad,.int (j:Nat) 0]) (Draws.list (A:=C.A.in1) hh a ad (fun q=>hσ (a,o) (by simp) q.symm) vs.toArray) (fun j h' st=> ?_) hne ?_ I h2t ⟨hit,hl⟩ (by simpa using hx) hxr fun S1 vc kk=>k rfl S1 vc fun {Q2 X2} q=>kk fun W' S' o' x' le J io r=>q W' S' _ le J ⟨e,a,ad,x',o',rfl,hne,le.σ _ _ h2,io,rfl⟩ r
  ·obtain ⟨⟨o1,q1,q2,q3⟩,_⟩:=st;exact ⟨o1,q1,q2,q3⟩
  ·intro hm
   rcases Zq hm with q | q
   ·exact hne q
   ·exact hσ (e,_) (Qk ..) (Zw q)
 ·rename_i hv
  (obtain rfl:=Qz h)
  have:vs[i]? =none:=by
   have:=hr.length
   rw [List.getElem?_eq_none_iff] at hv ⊢;lia
  exact wpAny_pyNext_enum_end hh hge hit hl (by simpa using this) fun h' p1=>k _ (I.turnEnd (tk:=S.toks) fun b ob hb y=>p1 b ob (fun q=>hb (by simp [q])) y)
theorem enum_end_tuple {A:Around} {S:Shared} {e it tu:Addr} {i:Nat} {items:Array Value} {old:Value} {Q:Option Value→Shared→Prop} {E:Value→Shared→Prop} (hh:A.handled=none)
  (he:IsEnum S.heap e it i old) (hit:S.heap.IsTupleIter it tu i) (ht:S.heap.IsTuple tu items) (hx:items[i]? =none)
  (hQ:∀ h',Heap.ExtBut it S.heap h'→Q none { S with heap:=h' }):wpAny (model G.prog G.w) A (pyNext (.ref e)) Q E S:=by
 have hT:S.TypeIs (.ref e) "enumerate" :=⟨_,he,rfl⟩
 refine Qq (wpAny_attempt (Qb (name:=Str.ofString "__next__") hT F.slot_enumerate_next
  (Qf F.slot_enumerate_next hT F.entry_enumerate_next ?_ (F.args_enumerate_next_1 _))))
 refine (?_:wpAny _ _ (field (.ref e) 2 >>=_) _ _ _)
 refine Qq (wpAny_field he rfl (x:= .ref it) rfl ?_)
 refine Qq (nextOf_tuple_end hh hit ht hx fun h' x he' hx'=> ?_)
 refine oEA hx' fun o ho hc=> ?_
 refine Qq (wpAny_isInstance (T:= "StopIteration") (b:=true) ⟨o,ho,hc⟩ isSubtype_stop ?_)
 exact Qw (hQ _ he')
set_option tactic.hygienic true in
theorem next_enumT {C:Cx} {W:Wd} {l:Tr AV} {s:St} {S:Shared} {xs:List AV} {i:Nat} {iv:Value} {ks:List (Addr × Obj)} {r:Option (AV × It)} {t:Tgt} {m:Em} {Q:Option Value→Shared→Prop} {X:Value→Shared→Prop}
  (hh:C.A.handled=none) (h:itNext (.enumT xs i) s=some r) (T:ItRel G W (.enumT xs i) iv ks) (I:Inv G (C.plus ks) W l s S) (h2t:isTwo t=true)
  (k:NextK G C W l s t m iv Q (itTup (.enumT xs i)) r):
  wpAny (model G.prog G.w) C.A (pyNext iv) Q X S:=by
 obtain ⟨e,a,tu,ot,vs,n,old,o,rfl,hne,h2,h2a,h2b,h5,⟨h3,h4⟩,rfl⟩:=T
 have hg:=keep1 I (p:=(a,o)) (by simp) (by intro es n;rw [h4];rintro ⟨⟩)
 have hge:=keep1 I (p:=(e,_)) (Qk ..) (by rintro es n ⟨⟩)
 have hit:S.heap.IsTupleIter a tu i:=⟨o,hg,h3,h4⟩
 have ht:S.heap.IsTuple tu vs:=⟨ot,(I.pin _ h2).1,h2a,n,h2b⟩
 conv at h=>lhs;whnf
 split at h
 ·(obtain rfl:=Qz h)
  exact enum_end_tuple hh hge hit ht (drop_end h5) fun h' p1=>k _ (I.turnEnd (tk:=S.toks) fun b ob hb y=>p1 b ob (fun q=>hb (by simp [q])) y)
 ·rename_i v rest
  (obtain rfl:=Qz h)
  refine oEAA (drop_get (xs:=[]) h5) fun x hx hxr hrest=> ?_
  refine next_enum (T:= "tuple_iterator") (f:=fun j=> #[.ref tu,.int (j:Nat) 0]) (drawsTuple (A:=C.A.in1) hh a tu vs) (fun j h' st=> ?_) hne ?_ I h2t ⟨hit,ht⟩ hx hxr fun S1 vc kk=>k rfl S1 vc fun {Q2 X2} q=>kk fun W' S' o' x' le J io r=>q W' S' _ le J ⟨e,a,tu,ot,vs,n,x',o',rfl,hne,le.pin _ h2,h2a,h2b,hrest.mono le,io,rfl⟩ r
  ·obtain ⟨⟨o1,q1,q2,q3⟩,_⟩:=st;exact ⟨o1,q1,q2,q3⟩
  ·intro hm
   rcases Zq hm with q | q
   ·exact hne q
   ·exact I.pk _ h2 (e,_) (List.mem_append_left _ (Qk ..)) (Zw q).symm
theorem next_ok:NextOk G:=fun {C W l s S it iv ks r t m Q X} hh h T I ht k=>by
 cases it with
 | list n i=>exact next_list hh h T I k
 | vals xs=>exact next_vals hh h T I k
 | keys n ep len i=>exact next_keys hh h T I k
 | items n ep len i=>exact next_items hh h T I (ht rfl) k
 | enumL n i=>exact next_enumL hh h T I (ht rfl) k
 | enumT xs i=>exact next_enumT hh h T I (ht rfl) k
 | range i n=>exact next_range hh h T I k
theorem meets_enumerate_newT (l:Addr) (items:Array Value) (o:Obj) (hc:o.cls= .type "tuple") (n:Nat) (hd:o.data= .seq items n):
  Meets (Builtin.«enumerate.__new__» ⟨[.type "enumerate",.ref l],[]⟩) (fun uu R s=>s.heap.get? l=some o∧
   R (.ok (.ret (.ref (s.heap.push { cls:= .type "tuple_iterator",data:= .fields #[.ref l,.int 0 0] }).objs.size)))
    { s with heap:=(s.heap.push { cls:= .type "tuple_iterator",data:= .fields #[.ref l,.int 0 0] }).push { cls:= .type "enumerate",data:= .fields #[.none,.bool false,.ref s.heap.objs.size,rawInt 0,.none,.none] } }):=
 .of_wp fun prog w A R s h=>by
  walk_at "e l items o|hc|n|hd|prog w A R s|h"
  obtain ⟨hp,g,d,tk,os⟩:=s;refine oA h fun hl h=> ?_
  have hsub:=sub_enumerate
  have hL:Heap.IsTuple (Shared.heap ⟨hp,g,d,tk,os⟩) l items:=⟨_,hl,hc,n,hd⟩
  wp_walk using wpAny_loadPart' hl
  refine wpAny_stack_any fun st=>Qw ?_
  generalize Builtin.SmallTypes.calledThroughType.match_1 _ _ _ _=b
  cases b <;> (wp_walk using wpAny_loadPart' hl,wpAny_pyIter_tuple hL;exact ⟨_,rfl,h⟩)
theorem call_enumerate_tuple {A:Around} {S:Shared} {E:Value→Shared→Prop} {l:Addr} {items:Array Value} {Q:Value→Shared→Prop} (hL:S.heap.IsTuple l items)
  (h:∀ h',IsEnum h' (S.heap.objs.size+1) S.heap.objs.size 0 .none→h'.IsTupleIter S.heap.objs.size l 0→h'.objs.size=S.heap.objs.size+2→
   (∀ b o,S.heap.get? b=some o→h'.get? b=some o)→Q (.ref (S.heap.objs.size+1)) { S with heap:=h' }):
  wpAny (model G.prog G.w) A (call (.type "enumerate") [.ref l]) Q E S:=by
 refine oEAAE hL fun o hl hc n hd=> ?_
 refine callType_new F.called_enumerate (by decide) (F.typeCall_enumerate_1 _) (F.newCall_enumerate_1 _) (fun obj=>F.args_object_init_2 obj _) F.entry_enumerate_new
  (meets_enumerate_newT l items o hc n hd) ⟨hl,?_⟩
 have hz:(S.heap.push { cls:= .type "tuple_iterator",data:= .fields #[.ref l,.int 0 0] }).objs.size=S.heap.objs.size+1:=Heap.size_push ..
 rw [hz]
 have he:IsEnum ((S.heap.push { cls:= .type "tuple_iterator",data:= .fields #[.ref l,.int 0 0] }).push
   { cls:= .type "enumerate",data:= .fields #[.none,.bool false,.ref S.heap.objs.size,rawInt 0,.none,.none] }) (S.heap.objs.size+1) S.heap.objs.size 0 .none:=by
  have:=Heap.get?_push_size (S.heap.push { cls:= .type "tuple_iterator",data:= .fields #[.ref l,.int 0 0] })
   (o:={ cls:= .type "enumerate",data:= .fields #[.none,.bool false,.ref S.heap.objs.size,rawInt 0,.none,.none] }) rfl
  rw [hz] at this;exact this
 refine ⟨⟨_,he,rfl⟩,h _ he ⟨_,Qv _ (Heap.get?_push_size _ rfl),rfl,rfl⟩ (by rw [Heap.size_push,hz]) fun b o x=>Qv _ (Qv _ x)⟩
end
end
section
open PySem PySem.W PyProof.Rows PySem.SeqAt
section
variable {G:Gl} {N:Nms} {Ee:Ev} {g:Nat→Bool}
theorem Vw (m:Em) (env:Env) (p:Pos):∀ es:List CE,(backTo p (starEach (embEs m es) env)).any (·.1)=false
 | []=>rfl
 | e::r=>by
  rw [Yy]
  refine (?_:(false || (backTo p (starEach (embEs m r) env)).any (·.1))=false)
  rw [Vw m env p r];rfl
theorem all_emb (m:Em) (env:Env) (p:Pos):∀ es:List CE,(backTo p (starEach (embEs m es) env)).all (!·.1)=true
 | []=>rfl
 | e::r=>by
  rw [Yy]
  refine (?_:(true && (backTo p (starEach (embEs m r) env)).all (!·.1))=true)
  rw [all_emb m env p r];rfl
theorem len_emb (m:Em):∀ es:List CE,(embEs m es).length=es.length
 | []=>rfl
 | _::r=>congrArg Nat.succ (len_emb m r)
theorem Xg (H:EOk G Ee) {es:List CE} (hw:wfEs g es=true) {C:Cx} {W:Wd} {lo:Lo} {s:St} {S:Shared} {vs:List AV} {s':St} {f:Value} {pos:Pos} {Q:Args→Shared→Prop} {X:Value→Shared→Prop} (F:Env0 G C g) (R:Room C lo.dep) (I:Inv G C W lo.vs s S)
  (h:evs (fun e s=>Ee.ev e lo s) es s=some (vs,s')) (k:∀ W' S' us,W.le W'→Inv G C W' lo.vs s' S'→VRels G W' vs us→Q ⟨us,[]⟩ S'):
  wpAny (model G.prog G.w) C.A (evalArgs f true (backTo pos (starEach (embEs (C.em G) es) C.env)) []) Q X S:=by
 cases es with
 | nil=>(obtain ⟨rfl,rfl⟩:=i2 h);exact PySem.evalArgs_none (k W S [] (.refl W) I .nil)
 | cons e r=>
  have:=evs_sound (E:=X) (H.ev g) (pos:=pos) F R (e::r) hw I h (Q:=fun us S'=>Q ⟨us,[]⟩ S') k
  rw [Yy] at this ⊢
  exact Calls.evalArgs_plain this
theorem meth_head {C:Cx} {S:Shared} {o:CE} {name:Str} {pa p:Pos} {args:List CE} {ov:Value} {Q:Value→Shared→Prop} {X:Value→Shared→Prop} (hl:oneLine pa p=true) (hn:args.length < 20)
  (h:∀ pl,wpAny (model G.prog G.w) C.A (getMethod ov name pl) (fun r S1=>wpAny (model G.prog G.w) C.A (callWith p r.1 r.2 (backTo p (starEach (embEs (C.em G) args) C.env)) []) Q X S1) X S):
  wpAny (model G.prog G.w) C.A (methodCall (embE (C.em G) o) name pa p C.env ov ((embEs (C.em G) args).length+([]:List Keyword).length) (backTo p (starEach (embEs (C.em G) args) C.env)) (backToKw p (keywordEach [] C.env))) Q X S:=by
 have hform:methodCallForm ((embEs (C.em G) args).length+([]:List Keyword).length) (backTo p (starEach (embEs (C.em G) args) C.env)) (backToKw p (keywordEach [] C.env))=true:=by
  unfold methodCallForm
  rw [all_emb,len_emb]
  exact (Wj (Nat.lt_trans hn (by decide)):decide (args.length < 30)=true)
 have hpos:methodCallPos true (embE (C.em G) o) C.env pa p=pure p:=by
  unfold methodCallPos
  have:(pa.endLine==p.line)=true:=hl
  simp [this]
 unfold methodCall
 rw [hform]
 refine Qq (Qg (wpAny_mono (h _) (fun r S1 h1=> ?_) fun uu uu e=>e))
 have f:=r.1;have first:=r.2
 exact Qq (wpAny_of_eq hpos h1)
theorem Yk {A:Around} {S:Shared} {X:Value→Shared→Prop} {v:Value} {T:String} {name:Str} {id:String} {pl:Sem Bool} {Q:Value × List Value→Shared→Prop} (hT:S.TypeIs v T) (pa:PlainAttrs T)
  (slot:Slot T name id) (hty:typeOf (.builtin id)=pure (.type "method_descriptor"))
  (hd:∀ a,v= .ref a→∃ o,S.heap.get? a=some o∧o.dict=none) (h:Q (.builtin id,[v]) S):wpAny (model G.prog G.w) A (getMethod v name pl) Q X S:=getMethod_builtin hT pa slot hty hd h
theorem Vv {C:Cx} {W:Wd} {lo:Lo} {s:St} {S:Shared} (GN:GNames G N) (H:EOk G Ee) {f:Nat} {pf p:Pos} {args:List CE} {T:String} (hT:(f,Value.type T)∈bltOf N) (hw:wfE g (.calG f pf args p)=true) (F:Env0 G C g) (R:Room C lo.dep) (I:Inv G C W lo.vs s S)
  {vs:List AV} {s':St} (h:evs (fun e s=>Ee.ev e lo s) args s=some (vs,s')) {Q:Value→Shared→Prop} {X:Value→Shared→Prop}
  (k:∀ W' S' us,W.le W'→Inv G C W' lo.vs s' S'→VRels G W' vs us→wpAny (model G.prog G.w) C.A (call (.type T) us) Q X S'):wpAny (model G.prog G.w) C.A (eval (embE (C.em G) (.calG f pf args p)) C.env) Q X S:=by
 have hw:=bt1 hw;have hw:=And.intro (bt1 hw.1) hw.2
 refine wpAny_Call_NameR (I.bload F GN hw.1.1 hT ?_)
 refine PySem.callWith_type (Vw _ _ _ _) (Xg H hw.1.2 F R I h fun W' S' us le I' r=> ?_)
 exact k W' S' us le I' r
theorem callG_blt {C:Cx} {W:Wd} {lo:Lo} {s:St} {S:Shared} (GN:GNames G N) (H:EOk G Ee) {f:Nat} {pf p:Pos} {args:List CE} {id:String} (hT:(f,Value.builtin id)∈bltOf N) (hw:wfE g (.calG f pf args p)=true) (F:Env0 G C g) (R:Room C lo.dep) (I:Inv G C W lo.vs s S)
  {vs:List AV} {s':St} (h:evs (fun e s=>Ee.ev e lo s) args s=some (vs,s')) {Q:Value→Shared→Prop} {X:Value→Shared→Prop}
  (k:∀ W' S' us,W.le W'→Inv G C W' lo.vs s' S'→VRels G W' vs us→wpAny (model G.prog G.w) C.A (call (.builtin id) us) Q X S'):wpAny (model G.prog G.w) C.A (eval (embE (C.em G) (.calG f pf args p)) C.env) Q X S:=by
 replace hw:=bt2 hw
 refine wpAny_Call_NameR (I.bload F GN hw.1.1 hT ?_)
 refine Calls.callWith_builtin (Vw _ _ _ _) (Xg H hw.1.2 F R I h fun W' S' us le I' r=> ?_)
 exact k W' S' us le I' r
noncomputable def OpenK' (G:Gl) (C:Cx) (W:Wd) (l:Tr AV) (s:St) (it:It) (K:Value→Shared→Prop):Prop:=∀ W' S' iv ks,W.le W'→Inv G (C.plus ks) W' l s S'→ItRel G W' it iv ks→K iv S'
theorem openPush {C:Cx} {W:Wd} {l:Tr AV} {s:St} {S:Shared} (I:Inv G C W l s S) (o:Obj) (hf:o.isFreed=false):Inv G (C.plus [(S.heap.objs.size,o)]) W l s { S with heap:=S.heap.push o }:=
 (I.grow (tk:=S.toks) (Xk _ o)).open1 (I.apart (Xw S.heap)) (Xd _ hf)
theorem dict_pyIter {A:Around} {E:Value→Shared→Prop} {S:Shared} {W:Wd} {d:Addr} {es:List (AV × AV)} {ep:Nat} {ds:List DictEntry} {Q:Value→Shared→Prop} (hd:(d==sysModules)=false) (D:DictAtI G W S d es ep ds)
  (hQ:Q (.ref S.heap.objs.size) { S with heap:=S.heap.push { cls:= .type "dict_keyiterator",data:= .fields #[.ref d,.int 0 0,.int ds.length 0,.int ep 0] } }):
  wpAny (model G.prog G.w) A (pyIter (.ref d)) Q E S:=by
 refine wpAny_pyIter_slot D.typeIs (Qf F.slot_dict_iter D.typeIs F.entry_dict_iter ?_ (F.args_dict_iter_1 _)) (h:=F.slot_dict_iter)
 refine Qq ?_
 refine Qq (wpAny_notOrdered_dict D.typeIs ?_)
 refine Qw ?_
 refine (?_:wpAny _ _ (Builtin.Dict.showsAll d >>=_) _ _ S)
 unfold Builtin.Dict.showsAll
 rw [if_neg (by rw [hd];exact Wv)]
 refine Qq (Qw ?_)
 refine Qq (wpAny_dictEntries D.get rfl ?_)
 refine Qq (wpAny_dictEpoch D.get rfl ?_)
 refine Qq (wpAny_newObj_type (Qw ⟨_,rfl,"dict_keyiterator",_,⟨_,Heap.get?_push_size _ rfl,rfl⟩,F.slot_dict_keyiterator_next.lookup,?_⟩))
 simpa [rawInt] using hQ
theorem call_items {A:Around} {E:Value→Shared→Prop} {S:Shared} {W:Wd} {d:Addr} {es:List (AV × AV)} {ep:Nat} {ds:List DictEntry} {Q:Value→Shared→Prop} (hd:(d==sysModules)=false) (D:DictAtI G W S d es ep ds)
  (hQ:Q (.ref S.heap.objs.size) { S with heap:=S.heap.push { cls:= .type "dict_items",data:= .fields #[.ref d] } }):wpAny (model G.prog G.w) A (call (.builtin "dict.items") [.ref d]) Q E S:=by
 refine Qf F.slot_dict_items D.typeIs F.entry_dict_items ?_ (F.args_dict_items_1 _)
 refine Qq ?_
 refine Qq (wpAny_notOrdered_dict D.typeIs ?_)
 refine Qw ?_
 unfold Builtin.Dict.showsAll
 rw [if_neg (by rw [hd];exact Wv)]
 refine Qq (Qw ?_)
 exact Qq (wpAny_newObj_type (Qw ⟨_,rfl,hQ⟩))
theorem items_pyIter {A:Around} {E:Value→Shared→Prop} {S:Shared} {W:Wd} {v d:Addr} {es:List (AV × AV)} {ep:Nat} {ds:List DictEntry} {Q:Value→Shared→Prop} (hv:S.heap.IsItemsView v d) (D:DictAtI G W S d es ep ds)
  (hQ:Q (.ref S.heap.objs.size) { S with heap:=S.heap.push { cls:= .type "dict_itemiterator",data:= .fields #[.none,.bool false,.ref d,.int 0 0,.int ds.length 0,.int ep 0,.none,.none] } }):
  wpAny (model G.prog G.w) A (pyIter (.ref v)) Q E S:=by
 refine oEAA (id hv) fun ov hov hcv hdv=> ?_
 refine wpAny_pyIter_slot hv.typeIs (h:=F.slot_dict_items_iter) (Qf F.slot_dict_items_iter hv.typeIs F.entry_dict_items_iter ?_ (F.args_dict_items_iter_1 _))
 refine Qq (Qw ?_)
 refine Qq ?_
 refine Qq (wpAny_field hov hdv (x:= .ref d) rfl (Qw ?_))
 refine Qq ?_
 refine Qq (wpAny_dictEntries D.get rfl ?_)
 refine Qq (wpAny_dictEpoch D.get rfl ?_)
 have hown:Builtin.Dict_items.ownsTuple "dict_itemiterator" =true:=by decide
 simp only [hown,if_true]
 refine wpAny_newObj_type (Qw ⟨_,rfl,"dict_itemiterator",_,⟨_,Heap.get?_push_size _ rfl,rfl⟩,F.slot_dict_itemiterator_next.lookup,?_⟩)
  (by simp only [sizeOk,Builtin.Dict_items.ownedTupleFields,List.size_toArray,List.length_append,List.length_cons,List.length_nil,sizeLine_eq];lia)
 simpa [rawInt,Builtin.Dict_items.ownedTupleFields] using hQ
set_option tactic.hygienic true in
theorem iterOf_sound (O:GOk G) {C:Cx} {W:Wd} {l:Tr AV} {s:St} {S:Shared} {v:AV} {vc:Value} {it:It} {K:Value→Shared→Prop} {X:Value→Shared→Prop} (I:Inv G C W l s S) (h:iterOf v s=some it) (hv:VRel G W v vc)
  (k:itTup it=false→OpenK' G C W l s it K):wpAny (model G.prog G.w) C.A (pyIter vc) K X S:=by
 walk_at "e G|O|C W l s S v vc it K X|I h hv k"
 unfold iterOf at h
 split at h
 ·rename_i xs
  (obtain rfl:=Qz h)
  obtain ⟨a,vs,o,rfl,hp,hc,n,hd,hr⟩:∃ a vs o,vc= .ref a∧(a,o)∈W.pin∧o.cls= .type "tuple" ∧∃ n,o.data= .seq vs n∧VRels G W xs vs.toList:=by
   refine vTup hv fun _ _ _ _ hp hc hd h=> ?_;exact ⟨_,_,_,rfl,hp,hc,_,hd,by simpa using h⟩
  refine wpAny_pyIter_tuple ⟨o,(I.pin _ hp).1,hc,n,hd⟩ ?_
  exact k rfl W _ _ _ (.refl W) (openPush I _ rfl) ⟨_,a,o,vs,n,0,_,rfl,hp,hc,hd,by simpa using hr,⟨rfl,rfl⟩,rfl⟩
 ·rename_i n
  refine vRef hv fun ad ha=> ?_
  split at h
  ·rename_i xs e
   (obtain rfl:=Qz h)
   refine oEEAA (I.list e ha) fun vs m hg hr hl=> ?_
   refine wpAny_pyIter_list hl ?_
   exact k rfl W _ _ _ (.refl W) (openPush I _ rfl) ⟨_,ad,_,rfl,ha,⟨rfl,rfl⟩,rfl⟩
  ·rename_i es ep e
   refine oE (I.dict e ha) fun ds D=> ?_
   have hlen:=D.ents.length
   walk_at "m m12 h h _"
   rw [Zk] at h
   (obtain rfl:=Qz h)
   refine dict_pyIter (I.notSys O ha) D ?_
   exact k rfl W _ _ _ (.refl W) (openPush I _ rfl) ⟨_,ad,_,rfl,ha,⟨rfl,by rw [Zd,←hlen];rfl⟩,rfl⟩
  ·exact nos h
 ·exact nos h
end
section
variable {G:Gl} {Ee:Ev} {w:WF} {ok:WF→Prop}
theorem enum_open {C:Cx} {W:Wd} {l:Tr AV} {s:St} {S:Shared} {h':Heap} {e it:Addr} {oe o:Obj} (I:Inv G C W l s S) (hk:∀ b ob,S.heap.get? b=some ob→h'.get? b=some ob) (h1:h'.get? e=some oe) (h2:h'.get? it=some o) (h3:S.heap.get? e=none) (h4:S.heap.get? it=none) (hne:e≠it):
  Inv G (C.plus [(e,oe),(it,o)]) W l s { S with heap:=h',toks:=S.toks }:=by
 have a1:=I.apart h3
 have a2:=I.apart h4
 have J:=(I.grow (tk:=S.toks) hk).open1 a2 h2
 have K:=J.open1 (a:=e) (o:=oe) ⟨a1.1,a1.2.1,a1.2.2.1,a1.2.2.2.1,fun p hp=>by
  rcases Zx hp with hp | hp
  ·rw [Zw hp];exact hne.symm
  ·exact a1.2.2.2.2 p hp⟩ h1
 exact K
theorem tup_out {W:Wd} {xs:List AV} {vc:Value} (h:VRel G W (.tup xs) vc):∃ a vs o,vc=Value.ref a∧(a,o)∈W.pin∧o.cls= .type "tuple" ∧∃ n,o.data= .seq vs n∧VRels G W xs vs.toList:=by
 refine vTup h fun uu uu uu uu hp hc hd h=> ?_;exact ⟨_,_,_,rfl,hp,hc,_,hd,by simpa using h⟩
theorem size1_none (h:Heap):h.get? (h.objs.size+1)=none:=by
 cases z:h.get? (h.objs.size+1) with
 | none=>rfl
 | some _=>exact absurd (Nat.lt_of_succ_lt (Heap.lt_size z)) (Nat.lt_irrefl _)
theorem mItt {β:Type} {r:β} {P:Prop} {x:Option It} {A:It→Option β} (h:(match x with | some a=>A a | none=>none)=some r) (k:∀ a,A a=some r→x=some a→P):P:=by
 cases x with
 | none=>exact nos h
 | some a=>exact k a h rfl
theorem zTR {β:Type} {r:β} {P:Prop} {x:Option (AV × St)} {A:List AV→St→Option β} {B:Nat→St→Option β} (h:(match x with | some (.tup xs,s)=>A xs s | some (.ref n,s)=>B n s | _=>none)=some r) (k:∀ xs s,A xs s=some r→x=some (.tup xs,s)→P) (l:∀ n s,B n s=some r→x=some (.ref n,s)→P):P:=by
 cases x with
 | none=>exact nos h
 | some q=>
  obtain ⟨v,s⟩:=q
  cases v <;> first | exact nos h | exact k _ _ h rfl | exact l _ _ h rfl
set_option tactic.hygienic true in
theorem start_sound (O:GOk G) (GN:GNames G theN) (hN:G.nm theN.items=Str.ofString "items") (H:EOk2 G ok Ee) {e:CE} (hw:wfE w.g e=true) {C:Cx} {W:Wd} {l:Lo} {s s':St} {S:Shared} {it:It} {K:Value→Shared→Prop} {X:Value→Shared→Prop}
  (F:Env1 G C w) (R:Room C l.dep) (I:Inv G C W l.vs s S) (h:startIt theN Ee e l s=some (it,s')) (k:∀ t,plainIt t e=true→(itTup it=true→isTwo t=true)) (kk:OpenK' G C W l.vs s' it K):
  wpAny (model G.prog G.w) C.A (eval (embE (C.em G) e) C.env) (fun x s₁=>wpAny (model G.prog G.w) C.A (pyIter x) K X s₁) X S:=by
 walk_at "e G Ee w ok|O GN hN H|e|hw|C W l s s' S it K X|F R I h k kk"
 have other:(match Ee.ev e l s with | some (v,s)=>(match iterOf v s with | some it=>some (it,s) | none=>none) | none=>none)=some (it,s')→
   wpAny (model G.prog G.w) C.A (eval (embE (C.em G) e) C.env) (fun x s₁=>wpAny (model G.prog G.w) C.A (pyIter x) K X s₁) X S:=by
  intro h
  walk_at "m m2 h v s1 h h1"
  refine mItt h fun it1 h h2=> ?_
  ((refine oA (i2 h) fun q0z q1z=> ?_;subst q0z q1z))
  exact H.ev _ e hw F.e R I h1 fun W1 S1 vc le1 I1 r1=>iterOf_sound O I1 h2 r1 fun _ W2 S2 iv ks le2 I2 T2=>kk _ _ _ _ (le1.trans le2) I2 T2
 cases e with
 | calG f pf args p=>
  walk_at "n zBo h"
  ·rename_i q
   have q:=Qy q
   subst q
   walk_at "M m99 h a h"
   have evsOf:∀ {v:AV} {s1:St},Ee.ev a l s=some (v,s1)→evs (fun e s=>Ee.ev e l s) [a] s=some ([v],s1):=fun {v s1} q=>gB q rfl
   refine zTR h (fun xs s1 h h1=> ?_) fun n s1 h h1=> ?_
   ·((refine oA (i2 h) fun q0z q1z=> ?_;subst q0z q1z))
    refine Vv GN H.toEOk (T:= "enumerate") (Qx (i:=3) rfl) hw F.e R I (evsOf h1) fun W1 S1 us le1 I1 r1=> ?_
    refine vsC r1 fun _ _ ra rb=> ?_
    refine vsN rb ?_
    obtain ⟨a,vs,o,rfl,hp,hc,n,hd,hr⟩:=tup_out ra
    refine call_enumerate_tuple ⟨o,(I1.pin _ hp).1,hc,n,hd⟩ fun h' q1 q2 q3 q4=> ?_
    refine oEAA q2 fun oi i1 i2 i3=> ?_
    have J:=enum_open (e:=S1.heap.objs.size+1) (it:=S1.heap.objs.size) I1 q4 q1 i1 (size1_none _) (Xw _) (Nat.succ_ne_self _)
    refine wpAny_pyIter_enum (s:={ S1 with heap:=h',toks:=S1.toks }) q1 ?_
    exact kk W1 _ _ _ le1 J ⟨_,_,a,o,vs,n,.none,oi,rfl,Nat.succ_ne_self _,hp,hc,hd,by simpa using hr,⟨i2,i3⟩,rfl⟩
   ·walk_at "m m73 h xs h e1"
    ((refine oA (i2 h) fun q0z q1z=> ?_;subst q0z q1z))
    refine Vv GN H.toEOk (T:= "enumerate") (Qx (i:=3) rfl) hw F.e R I (evsOf h1) fun W1 S1 us le1 I1 r1=> ?_
    refine vsC r1 fun _ _ ra rb=> ?_
    refine vsN rb ?_
    refine vRef ra fun ad ha=> ?_
    refine oEEAA (I1.list e1 ha) fun vs m hg hr hl=> ?_
    refine call_enumerate_list hl fun h' q1 q2 q3 q4=> ?_
    refine oEAA q2 fun oi i1 i2 i3=> ?_
    have J:=enum_open (e:=S1.heap.objs.size+1) (it:=S1.heap.objs.size) I1 q4 q1 i1 (size1_none _) (Xw _) (Nat.succ_ne_self _)
    refine wpAny_pyIter_enum (s:={ S1 with heap:=h',toks:=S1.toks }) q1 ?_
    exact kk W1 _ _ _ le1 J ⟨_,_,ad,.none,oi,rfl,Nat.succ_ne_self _,ha,⟨i2,i3⟩,rfl⟩
  ·walk_at "n zBo h"
   ·rename_i q
    have q:=Qy q
    subst q
    walk_at "M m50 h n pn h"
    walk_at "m m12 h h hz"
    have hz:=Qh hz
    ((refine oA (i2 h) fun q0z q1z=> ?_;subst q0z q1z))
    replace hw:=bt2 hw
    refine wpAny_Call_NameR (I.bload F.e GN hw.1.1 (v:= .type "range") (Qx (i:=4) rfl) ?_)
    refine PySem.callWith_type rfl (Calls.evalArgs_plain (Wy (Qn (pos:=pn) (k:=0) (Calls.spliced_nil ?_))))
    refine call_range_1 ?_
    refine wpAny_pyIter_range (IsRange.new ..) (small_one (by decide) (by decide) (by show -(2^62:Int)≤((n:Nat):Int);lia) (by show ((n:Nat):Int) < 2 ^ 62;lia)) ?_
    have hsz:Builtin.Range.rangeSize 0 (Int.ofNat n) 1=((n:Nat):Int) - ((0:Nat):Int):=by
     rw [rangeSize_one]
     split <;> lia
    rw [hsz]
    have I1:Inv G C W l.vs s { S with heap:=S.heap.push { cls:= .type "range",data:= .fields #[.int 0 (S.toks+1),.int (Int.ofNat n) S.toks,.int 1 (S.toks+1+1)] },toks:=S.toks+1+1+1 }:=I.grow (Xk _ _)
    exact kk W _ _ _ (.refl W) (openPush I1 _ rfl) ⟨_,rfl,rfl⟩
   ·exact other h
 | meth o m args pa p=>
  walk_at "n zBo h"
  ·rename_i q
   have q:=Qy q
   subst q
   walk_at "M m100 h h"
   walk_at "m m37 h n s1 h h1"
   walk_at "m m19 h es ep h e1"
   walk_at "m m12 h h _"
   rw [Zk] at h
   cases h
   replace hw:=bt4 hw
   show wpAny _ _ (eval (.Call (.Attribute (embE (C.em G) o) (G.nm theN.items) pa) [] [] p) C.env) _ _ _
   rw [arm_eval_Call,base_emb _ _ _ _ _ hw.2]
   refine Qq (H.ev _ o hw.1.1.1.1 F.e R I h1 fun W1 S1 vc le1 I1 r1=>Qq (wpAny_standAt ?_))
   refine vRef r1 fun ad ha=> ?_
   refine oE (I1.dict e1 ha) fun ds D=> ?_
   have hlen:=D.ents.length
   refine meth_head (args:=[]) hw.1.1.2 (by simp) fun pl=> ?_
   refine Yk (T:= "dict") (id:= "dict.items") D.typeIs PySem.F.plainAttrs_dict (hN ▸ PySem.F.slot_dict_items) PySem.F.type_dict_items (fun b hb=>by cases hb;exact ⟨_,D.get,rfl⟩) ?_
   refine Calls.callWith_builtin rfl (PySem.evalArgs_none ?_)
   refine call_items (I1.notSys O ha) D ?_
   have I2:Inv G C W1 l.vs s' { S1 with heap:=S1.heap.push { cls:= .type "dict_items",data:= .fields #[.ref ad] } }:=I1.grow (tk:=S1.toks) (Xk _ _)
   refine oE (I2.dict e1 ha) fun ds2 D2=> ?_
   have hlen2:=D2.ents.length
   refine items_pyIter (S:={ S1 with heap:=S1.heap.push { cls:= .type "dict_items",data:= .fields #[.ref ad] } }) ⟨_,Xd _ rfl,rfl,rfl⟩ D2 ?_
   exact kk W1 _ _ _ le1 (openPush I2 _ rfl) ⟨_,ad,.none,.none,rfl,ha,by rw [Zd,←hlen2];rfl⟩
  ·exact other h
 | _=>exact other h
end
section
variable {G:Gl} {Ee:Ev} {w:WF} {ok:WF→Prop}
theorem iterOf_tup {v:AV} {s:St} {it:It} (h:iterOf v s=some it):itTup it=false:=by
 unfold iterOf at h
 split at h
 ·refine e1 h ?_;rfl
 ·split at h
  ·refine e1 h ?_;rfl
  ·walk_at "m m12 h h _"
   rw [Zk] at h;refine e1 h ?_;rfl
  ·exact nos h
 ·exact nos h
set_option tactic.hygienic true in
theorem start_tup {e:CE} {l:Lo} {s s':St} {it:It} {t:Tgt} (h:startIt theN Ee e l s=some (it,s')) (hp:plainIt t e=true) (ht:itTup it=true):isTwo t=true:=by
 walk_at "e Ee e l s s' it t|h hp ht"
 cases t with
 | two xs p=>rfl
 | one x p=>
  exfalso
  have other:(match Ee.ev e l s with | some (v,s)=>(match iterOf v s with | some it=>some (it,s) | none=>none) | none=>none)=some (it,s')→False:=by
   intro h
   split at h
   ·split at h
    ·rename_i h2;((refine oA (i2 h) fun q0z q1z=> ?_;subst q0z q1z));rw [iterOf_tup h2] at ht;exact fat ht
    ·exact nos h
   ·exact nos h
  cases e with
  | calG f pf args q=>
   conv at hp=>lhs;whnf
   conv at h=>lhs;whnf
   walk_at "n zBo h"
   ·rename_i z;rw [z] at hp;exact fat hp
   ·walk_at "n zBo h"
    ·walk_at "M m50 h _ _ h"
     walk_at "m m12 h h _"
     ((refine oA (i2 h) fun q0z q1z=> ?_;subst q0z q1z));exact fat ht
    ·exact other h
  | meth o m args pa q=>
   conv at hp=>lhs;whnf
   conv at h=>lhs;whnf
   walk_at "n zBo h"
   ·rename_i z;rw [z] at hp;exact fat hp
   ·exact other h
  | _=>exact other h
theorem folded_emb (m:Em) (e:CE) (env:Env) (x:Value):foldedSetIterable (embE m e) env x=pure x:=by cases e <;> rfl
theorem st_forr (O:GOk G) (GN:GNames G theN) (hN:G.nm theN.items=Str.ofString "items") (H:EOk2 G ok Ee) (hwk:ok w) {t:Tgt} {e:CE} {b c:List CS} {p:Pos} (hw:wfS w (.forr t e b c p)=true):StAt G theN Ee w (.forr t e b c p):=fun {C W l s S fl l' s' Q X} F R I h k=>by
 replace hw:=bt4 hw
 have h1:=hw.1.1.1.1;have h2:=hw.1.1.1.2;have h3:=hw.1.1.2;have h4:=hw.1.2;have h5:=hw.2
 walk_at "m m160 h it s1 h hs"
 refine wpAny_For ?_ (folded_emb _ _ _)
 refine start_sound O GN hN H h2 F R I hs (fun t' ht'=>start_tup hs ht') fun W1 S1 iv ks le1 I1 T1=> ?_
 exact for_sound next_ok H hwk h1 h3 h4 F R I1 T1 (start_tup hs h5) h fun q W2 S2 f le2 I2 r2=>k q _ _ _ (le1.trans le2) I2 r2
structure Whole (G:Gl):Prop where
 o:GOk G
 names:GNames G theN
 cls:GCls G
 okA:∀ k,okAttr k=true→G.okA k=true
 items:G.nm theN.items=Str.ofString "items"
noncomputable def SpecOk (G:Gl) (ok:WF→Prop):Prop:=∀ w,ok w→∀ k path,w.specs.contains (k,path)=true→∀ {Ee:Ev},StAt G theN Ee w (.spec k path)
theorem st_step (Wh:Whole G) (SP:SpecOk G ok) (H:EOk2 G ok Ee) (hwk:ok w) (c:CS) (hw:wfS w c=true):StAt G theN Ee w c:=by
 cases c with
 | expr e p=>exact @st_expr _ _ _ _ _ H _ _ hw
 | asgN x pt e p=>exact @st_asgN _ _ _ _ _ H _ _ _ _ hw
 | asgA o a pt e p=>exact @st_asgA _ _ _ _ _ Wh.o Wh.cls Wh.okA H _ _ _ _ _ hw
 | asgS o i pt e p=>exact @st_asgS _ _ _ _ _ Wh.o H _ _ _ _ _ hw
 | asgT xs pt e p=>exact @st_asgT _ _ _ _ _ H _ _ _ _ hw
 | augN x pt op e p=>exact @st_augN _ _ _ _ _ H _ _ _ _ _ hw
 | augA o a pt op e p=>exact @st_augA _ _ _ _ _ Wh.o Wh.cls Wh.okA H _ _ _ _ _ _ hw
 | augS o i pt op e p=>exact @st_augS _ _ _ _ _ Wh.o H _ _ _ _ _ _ hw
 | ife t b c p=>exact @st_ife _ _ _ _ _ H hwk _ _ _ _ hw
 | whl t b c p=>exact @st_whl _ _ _ _ _ H hwk _ _ _ _ hw
 | forr t e b c p=>exact @st_forr _ _ _ _ Wh.o Wh.names Wh.items H hwk _ _ _ _ _ hw
 | ret e p=>exact @st_ret _ _ _ _ _ H _ _ hw
 | brk p=>exact @st_brk _ _ _ _ _
 | cont p=>exact @st_cont _ _ _ _ _
 | pas p=>exact @st_pas _ _ _ _ _
 | asrt t path p=>exact @st_asrt _ _ _ _ _ H _ _ _ hw
 | spec k path=>exact SP w hwk k path hw
 | raw path=>exact @st_raw _ _ _ _ _
set_option tactic.hygienic true in
theorem exs_step (Wh:Whole G) (SP:SpecOk G ok) (H:EOk2 G ok Ee) (hwk:ok w) (b:List CS) (hw:wfSs w b=true):ExAt G (stepE G.P theN Ee) w b:=by
 induction b with
 | nil=>
  intro C W l s S fl l' s' Q X F R I h k
  ((refine oAA (i3 h) fun q0z q1z q2z=> ?_;subst q0z q1z q2z))
  exact Ww (k rfl _ _ _ (.refl _) I trivial)
 | cons c r ih=>
  intro C W l s S fl l' s' Q X F R I h k
  replace hw:=bt1 hw
  walk_at "m m32 h fl1 l1 s1 h h1"
  refine Wq (st_step Wh SP H hwk c hw.1 F R I h1 fun e1 W1 S1 f le1 I1 r1=> ?_)
  split at h
  ·cases f <;> first | exact r1.elim | skip
   exact ih hw.2 F (show Room C l1.dep from e1 ▸ R) I1 h fun e2 W2 S2 f2 le2 I2 r2=>k (e2.trans e1) _ _ _ (le1.trans le2) I2 r2
  ·rename_i hne
   cases h
   have:=k e1 _ _ _ le1 I1 r1
   cases f with
   | next=>cases fl <;> first | exact r1.elim | exact absurd rfl hne
   | _=>exact this
end
structure FnAt (G:Gl) (F:Fun) (fd:FuncData) (ln:List String) (w:WF):Prop where
 body:fd.body= .stmts (embSs ⟨theLn ln,G.nm,G.P.strq,w.root⟩ F.body)
 wf:wfSs w F.body=true
 co:fd.scope.isCoroutine=false
 gen:fd.scope.isGenerator=false
 kind:fd.scope.kind= .function
 code:fd.code=w.code
 lnw:ln=w.ln
 cell:∀ x∈fd.scope.names,x.2≠ .cell
 loc:∀ nm∈ln,fd.scope.names.lookup (Str.ofString nm)=some .local∧(Str.ofString nm==("__debug__" :Str))=false
 nd:(ln.map Str.ofString).Nodup
 np:F.n≤ln.length
 glo:∀ x,w.g x=true→fd.scope.names.lookup (G.nm x)=some .globalImplicit∧(G.nm x==("__debug__" :Str))=false
 gl:fd.globals=G.mA
 bl:fd.builtins=G.bA
 slot:∀ x,w.a x=true→x < ln.length
 all:∀ x,x < ln.length→w.a x=true
 bind:∀ {S:Shared} {W:Wd} {args args':List AV} {vs:List Value},withDflt F.n F.dflt args=some args'→args'.length=F.n→VRels G W args vs→(∀ b o,G.B.get? b=some o→S.heap.get? b=some o)→
  ∃ us,VRels G W args' us∧BindsTo S fd ⟨vs,[]⟩ (((ln.take F.n).map Str.ofString).zip us)
section
variable {G:Gl} {Ee:Ev} {ok:WF→Prop}
theorem lookup_nodup {β:Type} {k:Str} {v:β}:∀ {l:List (Str × β)},(l.map (·.1)).Nodup→(k,v)∈l→l.lookup k=some v
 | [],_,h=>by simp at h
 | (a,b)::l,hn,h=>by
  simp only [List.map_cons,List.nodup_cons] at hn
  rw [List.lookup_cons]
  rcases Zq h with e | e
  ·refine eep e ?_;simp
  ·have:(k==a)=false:=by
    rw [beq_eq_false_iff_ne]
    rintro rfl
    exact hn.1 (List.mem_map.mpr ⟨_,e,rfl⟩)
   rw [this];exact lookup_nodup hn.2 e
theorem bindP_get:∀ (args:List AV) (i:Nat) (t t':Tr AV),bindP i args t=some t'→∀ x v,t'.get x=some v→(t.get x=some v∧(x < i∨i+args.length≤x))∨(i≤x∧args[x - i]? =some v)
 | [],i,t,t',h,x,v,hx=>by (obtain rfl:=Qz h);left;exact ⟨hx,by simp;lia⟩
 | a::r,i,t,t',h,x,v,hx=>by
  walk_at "m m28 h t1 h h1"
  rcases bindP_get r (i+1) t1 t' h x v hx with ⟨q1,q2⟩ | ⟨q1,q2⟩
  ·rw [Tr.set_get h1] at q1
   by_cases e:x=i
   ·subst e;rw [if_pos rfl] at q1;right;exact ⟨Nat.le_refl _,by simpa using q1⟩
   ·rw [if_neg e] at q1;left
    refine ⟨q1,?_⟩
    simp;lia
  ·right
   refine ⟨by lia,?_⟩
   have:x - i=(x - (i+1))+1:=y0 q1
   rw [this];simpa using q2
theorem bindP_nil {args:List AV} {t:Tr AV} (h:bindP 0 args .nil=some t) {x:Nat} {v:AV} (hx:t.get x=some v):args[x]? =some v:=by
 rcases bindP_get args 0 .nil t h x v hx with ⟨q,_⟩ | ⟨_,q⟩
 ·rw [Tr.get_nil] at q;exact nos q
 ·simpa using q
noncomputable def Cx.callee (C:Cx) (oL:Obj) (env:Env) (ln:List String) (root:List Stmt):Cx:=⟨C.A.deeper env,env,ln,(C.L,oL)::C.keeps,fun uu=>none,root⟩
theorem Inv.enter {C:Cx} {W:Wd} {l:Tr AV} {s:St} {S:Shared} {oL:Obj} {env:Env} {ln:List String} {root:List Stmt} {h₀:Heap} {tk:Nat} {m:Str→Option Value} {t:Tr AV} (I:Inv G C W l s S) (hL:S.heap.get? C.L=some oL)
  (he:env.locals=S.heap.objs.size) (hn:h₀.Ns S.heap.objs.size m) (hk:∀ b o,S.heap.get? b=some o→h₀.get? b=some o)
  (hl:∀ x v,t.get x=some v→∃ nm cv,ln[x]? =some nm∧m (Str.ofString nm)=some cv∧VRel G W v cv):Inv G (C.callee oL env ln root) W t s { S with heap:=h₀,toks:=tk }:=by
 have old:∀ {b:Addr} {o:Obj},S.heap.get? b=some o→b≠S.heap.objs.size:=fun {b o} e q=>by rw [q,Xw] at e;exact nos e
 have hLL:(C.callee oL env ln root).L=S.heap.objs.size:=he
 refine ⟨fun b o e=>hk b o (I.base b o e),fun p hp=> ?_,fun p hp=> ?_,fun p hp q hq=> ?_,fun q hq=> ?_,?_,fun n o e=> ?_,I.len,I.nodup,fun a ha=> ?_,⟨m,?_,fun x v e=> ?_⟩,?_,I.gens,I.drawn,I.os⟩
 ·refine oAA (I.pin p hp) fun h1 h2 h3=> ?_
  exact ⟨hk _ _ h1,h2,by rw [hLL];exact old h1⟩
 ·rcases Zq hp with rfl | hp
  ·exact ⟨.inl (hk _ _ hL),fun q=>(I.fresh _ q).2.1 rfl,by rw [hLL];exact old hL⟩
  ·refine oAA (I.keep p hp) fun h1 h2 h3=> ?_
   refine oEA (h1.there) fun o1 h1' uu=> ?_
   exact ⟨h1.map (hk _),h2,by rw [hLL];exact old h1'⟩
 ·rcases Zq hq with rfl | hq
  ·exact (I.pin p hp).2.2
  ·exact I.pk p hp q hq
 ·rcases Zq hq with rfl | hq
  ·exact I.locB
  ·exact I.kb q hq
 ·skip
  refine List.nodup_cons.mpr ⟨fun hm=> ?_,I.kn⟩
  refine oEA (List.mem_map.mp hm) fun p hp e=> ?_
  exact (I.keep p hp).2.2 e
 ·refine oEEAA (I.objs n o e) fun a co h1 h2 h3=> ?_;exact ⟨a,co,h1,hk _ _ h2,h3⟩
 ·refine oAAE (I.fresh a ha) fun h1 h2 o h3=> ?_
  exact ⟨h1,by rw [hLL];exact old h3,o,hk _ _ h3⟩
 ·rw [hLL];exact hn
 ·refine oEEAA (hl x v e) fun nm cv h1 h2 h3=> ?_
  exact ⟨nm,cv,h1,h2,h3⟩
 ·rw [hLL]
  cases q:G.B.get? S.heap.objs.size with
  | none=>rfl
  | some o=>exact absurd rfl (old (I.base _ _ q))
theorem Inv.back {C:Cx} {W W':Wd} {l t:Tr AV} {s s':St} {S S':Shared} {oL:Obj} {env:Env} {ln:List String} {root:List Stmt} (I:Inv G C W l s S) (hL:S.heap.get? C.L=some oL) (le:W.le W') (J:Inv G (C.callee oL env ln root) W' t s' S'):
  Inv G C W' l s' S':=by
 have kL:=J.keep (C.L,oL) (Qk ..)
 obtain ⟨m,⟨o,es,ep,h1,h2⟩,hl⟩:=I.loc
 refine oEA (kL.1.there) fun o2 g2 d2=> ?_
 refine ⟨J.base,fun p hp=>⟨(J.pin p hp).1,(J.pin p hp).2.1,J.pk p hp (C.L,oL) (Qk ..)⟩,fun p hp=>⟨(J.keep p (Qj _ hp)).1,(J.keep p (Qj _ hp)).2.1,(I.keep p hp).2.2⟩,
  fun p hp q hq=>J.pk p hp q (Qj _ hq),I.kb,I.kn,J.objs,J.len,J.nodup,fun a ha=> ?_,⟨m,⟨o2,es,ep,g2,?_⟩,fun x v e=> ?_⟩,I.locB,J.gens,J.drawn,J.os⟩
 ·refine oAA (J.fresh a ha) fun q1 q2 q3=> ?_
  exact ⟨q1,fun e=>kL.2.1 (e ▸ ha),q3⟩
 ·rw [hL] at h1;(obtain rfl:=Qz h1);rw [d2];exact h2
 ·refine oEEAA (hl x v e) fun nm cv q1 q2 q3=> ?_
  exact ⟨nm,cv,q1,q2.mono le.pin,q3.mono le⟩
noncomputable def RoomC (C:Cx) (d:Nat):Prop:=C.A.units+16 * d+30≤cLine∧C.A.depth+4 * d+2≤recursionLimit
theorem Room.c {C:Cx} {d:Nat} (h:Room C d):RoomC C d:=⟨by have:=h.1;lia,by have:=h.2;lia⟩
noncomputable def CallAt (G:Gl) (Ee:Ev) (F:Fun) (a:Addr):Prop:=∀ {C:Cx} {W:Wd} {l:Lo} {s:St} {S:Shared} {args:List AV} {vs:List Value} {v:AV} {s':St} {R:Result→Shared→Prop},
 Hand C→RoomC C l.dep→Inv G C W l.vs s S→runF Ee F args l s=some (v,s')→VRels G W args vs→(∀ W' S' vc,W.le W'→Inv G C W' l.vs s' S'→VRel G W' v vc→R (.ok (.ret vc)) S')→
 codeAny (model G.prog G.w) C.A (.call (.ref a) ⟨vs,[]⟩) R S
theorem runF_inv {Ee:Ev} {F:Fun} {args:List AV} {l:Lo} {s s':St} {v:AV} {P:Prop} (h:runF Ee F args l s=some (v,s')) (k:∀ d args' t fl l2,l.dep=d+1→withDflt F.n F.dflt args=some args'→args'.length=F.n→bindP 0 args' .nil=some t→Ee.exs F.body ⟨d,t⟩ s=some (fl,l2,s')→(fl= .ret v∨fl= .next∧v= .non)→P):P:=by
 walk_at "m m199 h d h hdep"
 walk_at "m m13 h args' h h1"
 walk_at "m m12 h h hlen"
 have hlen:=Qy hlen
 rw [Zd] at hlen
 walk_at "m m28 h t h ht"
 walk_at "m m32 h fl l2 s2 h h2"
 cases fl with
 | ret u=>cases h;exact k d args' t _ l2 hdep h1 hlen ht h2 (.inl rfl)
 | next=>cases h;exact k d args' t _ l2 hdep h1 hlen ht h2 (.inr ⟨rfl,rfl⟩)
 | _=>exact nos h
theorem call_fn (GN:GNames G theN) (H:EOk2 G ok Ee) {F:Fun} {fd:FuncData} {ln:List String} {w:WF} {a:Addr} {o:Obj} (T:FnAt G F fd ln w) (hwk:ok w) (ha:G.B.get? a=some o) (hd:o.data= .func fd) (hcd:G.B.CodeRec fd.code fd.qualname):CallAt G Ee F a:=by
 intro C W l s S args vs v s' R hh Rm I h hv k
 walk_at "e G Ee ok|GN H|F fd ln w a o|T hwk ha hd hcd|C W l s S args vs v s' R|hh Rm I h hv k"
 refine runF_inv h fun d args' t fl l2 hdep h1 hlen ht h2 hfl=> ?_
 clear h
 ·skip
  refine oEA (T.bind h1 hlen hv I.base) fun us hus hb=> ?_
  obtain ⟨m,⟨oL,es,ep,hL,hLr⟩,hloc⟩:=id I.loc
  have ul:=hus.length
  have hnl:S.heap.NoLimit:=GN.nolimit.at fun o e=>I.base _ o e
  have hcd':S.heap.CodeRec fd.code fd.qualname:=by
   refine oEEEEAA hcd fun c o vs t q1 q2 q3=> ?_;exact ⟨c,o,vs,t,q1,I.base _ _ q2,q3⟩
  have hdp:=Rm.2
  have hun:=Rm.1
  rw [hdep] at hdp hun
  refine codeAny_call_def (by lia) (I.base _ _ ha) hd hnl hcd' T.body hb T.cell (fun x hx=> ?_) (fun h₀ hn hk=> ?_) T.co T.gen T.kind
  ·have:=(List.of_mem_zip hx).1
   refine oEA (List.mem_map.mp this) fun nm hnm e=> ?_
   rw [←e];exact (T.loc nm (List.mem_of_mem_take hnm)).1
  ·have J:Inv G (C.callee oL (callEnv fd S.heap.objs.size a) ln w.root) W t s { S with heap:=h₀,toks:=S.toks+(((ln.take F.n).map Str.ofString).zip us).length }:=by
    refine I.enter hL rfl hn hk fun x v e=> ?_
    have e:=bindP_nil ht e
    refine oEA (hus.get e) fun cv c1 c2=> ?_
    have hx:x < F.n:=by rw [←hlen];exact (Wn e).1
    have hx2:x < ln.length:=Wx hx T.np
    have e1:ln[x]? =some ln[x]:=Qu hx2
    refine ⟨ln[x],cv,e1,?_,c2⟩
    have nd:((((ln.take F.n).map Str.ofString).zip us).map (·.1)).Nodup:=by
     rw [List.map_fst_zip (by simp;lia)]
     exact (T.nd.sublist ((List.take_sublist F.n ln).map _))
    have mem:(Str.ofString ln[x],cv)∈((ln.take F.n).map Str.ofString).zip us:=by
     refine List.mem_iff_getElem?.mpr ⟨x,?_⟩
     rw [List.getElem?_zip_eq_some]
     refine ⟨?_,c1⟩
     rw [List.getElem?_map,List.getElem?_take_of_lt hx,e1];rfl
    exact lookup_nodup (by rw [List.map_reverse];exact List.pairwise_reverse.mpr (List.Pairwise.imp (fun h=>Ne.symm h) nd)) (List.mem_reverse.mpr mem)
   have E1:Env1 G (C.callee oL (callEnv fd S.heap.objs.size a) ln w.root) w:=by
    refine ⟨⟨T.kind,fun x nm e=>(T.loc nm (Qx e)).1,fun x nm e=>(T.loc nm (Qx e)).2,T.nd,T.glo,T.gl,T.bl,hh.deeper (oL:=oL) rfl rfl rfl T.kind hLr.1⟩,rfl,T.code,T.lnw,fun x nm e q=>absurd (T.all x (by rw [T.lnw];exact (Wn e).1)) (by rw [q];exact Wv),fun x e=>⟨rfl,?_⟩⟩
    exact ⟨_,Qu (T.slot x e)⟩
   have Rm2:Room (C.callee oL (callEnv fd S.heap.objs.size a) ln w.root) d:=⟨by refine (?_:C.A.units+3+16 * d+40≤cLine);lia,by refine (?_:C.A.depth+1+4 * d+4≤recursionLimit);lia⟩
   refine H.ex w hwk F.body T.wf E1 (show Room _ (Lo.mk d t).dep from Rm2) J h2 fun uu W1 S1 f le1 J1 r1=> ?_
   have I1:=I.back hL le1 J1
   rcases hfl with q | q
   ·subst q;refine fRe r1 fun uu r1=> ?_;exact k _ _ _ le1 I1 r1
   ·refine oA q fun q q2=> ?_;subst q q2;refine fNx r1 ?_;exact k _ _ _ le1 I1 .non
end
structure MNames (G:Gl) (N:Nms):Prop where
 l:∀ p∈[(N.append,"append"),(N.pop,"pop"),(N.insert,"insert")],G.nm p.1=Str.ofString p.2
 d:∀ p∈[(N.get,"get"),(N.setdefault,"setdefault")],G.nm p.1=Str.ofString p.2
 s:G.nm N.add=Str.ofString "add"
section
variable {G:Gl} {C:Cx} {W:Wd} {l:Tr AV} {s:St} {S:Shared} {E:Value→Shared→Prop} {A:Around}
theorem slot_unique {T:String} {name:Str} {i j:String} (a:Slot T name i) (b:Slot T name j):i=j:=by
 have h:=a.lookup.symm.trans b.lookup
 injection h with h
 injection h with h
 injection h
set_option tactic.hygienic true in
theorem lstM_slot {N:Nms} (hN:MNames G N) {n m:Nat} {xs args:List AV} {r:AV × St} (h:lstM N n m xs args s=some r):∃ id,typeOf (.builtin id)=pure (.type "method_descriptor")∧Slot "list" (G.nm m) id:=by
 walk_at "e G s N|hN|n m xs args r|h"
 walk_at "m m12 h h _"
 walk_at "n zBo h"
 ·rename_i q
  have q:=Qy q
  subst q
  have en:G.nm N.append=Str.ofString "append" :=hN.l (N.append,"append") (by simp)
  exact ⟨"list.append",F.type_list_append,en ▸ F.slot_list_append⟩
 ·walk_at "n zBo h"
  ·rename_i q
   have q:=Qy q
   subst q
   have en:G.nm N.pop=Str.ofString "pop" :=hN.l (N.pop,"pop") (by simp)
   exact ⟨"list.pop",F.type_list_pop,en ▸ F.slot_list_pop⟩
  ·walk_at "m m12 h h q"
   have q:=Qy q
   subst q
   have en:G.nm N.insert=Str.ofString "insert" :=hN.l (N.insert,"insert") (by simp)
   exact ⟨"list.insert",F.type_list_insert,en ▸ F.slot_list_insert⟩
set_option tactic.hygienic true in
theorem dctM_slot {N:Nms} (hN:MNames G N) {n m ep:Nat} {es:List (AV × AV)} {args:List AV} {r:AV × St} (h:dctM N n m es ep args s=some r):∃ id,typeOf (.builtin id)=pure (.type "method_descriptor")∧Slot "dict" (G.nm m) id:=by
 walk_at "n zBo h"
 ·rename_i q
  have q:=Qy q
  subst q
  have en:G.nm N.get=Str.ofString "get" :=hN.d (N.get,"get") (by simp)
  exact ⟨"dict.get",F.type_dict_get,en ▸ F.slot_dict_get⟩
 ·walk_at "m m12 h h q"
  have q:=Qy q
  subst q
  have en:G.nm N.setdefault=Str.ofString "setdefault" :=hN.d (N.setdefault,"setdefault") (by simp)
  exact ⟨"dict.setdefault",F.type_dict_setdefault,en ▸ F.slot_dict_setdefault⟩
theorem setM_slot {N:Nms} (hN:MNames G N) {n m:Nat} {xs args:List AV} {r:AV × St} (h:setM N n m xs args s=some r):∃ id,typeOf (.builtin id)=pure (.type "method_descriptor")∧Slot "set" (G.nm m) id:=by
 walk_at "m m12 h h q"
 have q:=Qy q
 subst q
 exact ⟨"set.add",F.type_set_add,hN.s ▸ F.slot_set_add⟩
theorem zL2 {β:Type} {r:β} {P:Prop} {x:List AV} {A:AV→Option β} {B:AV→AV→Option β} (h:(match x with | [k]=>A k | [k,d]=>B k d | _=>none)=some r) (k1:∀ k,A k=some r→x=[k]→P) (k2:∀ k d,B k d=some r→x=[k,d]→P):P:=by
 rcases x with _ | ⟨k,_ | ⟨d,_ | ⟨e,y⟩⟩⟩
 ·exact nos h
 ·exact k1 k h rfl
 ·exact k2 k d h rfl
 ·exact nos h
theorem zOO {β:Type} {r:β} {P:Prop} {x:Option (Option AV)} {A:AV→Option β} {B:Option β} (h:(match x with | some (some v)=>A v | some none=>B | none=>none)=some r) (k1:∀ v,A v=some r→x=some (some v)→P) (k2:B=some r→x=some none→P):P:=by
 rcases x with _ | _ | v
 ·exact nos h
 ·exact k2 h rfl
 ·exact k1 v h rfl
theorem dctM_sound (O:GOk G) {N:Nms} (hN:MNames G N) (hu:A.units+7≤cLine) (I:Inv G C W l s S) {n m ep:Nat} {a:Addr} {es:List (AV × AV)} {args:List AV} {vs:List Value} {r:AV} {s':St}
  (e:s.h.get n=some (.dict es ep)) (ha:W.σ[n]? =some a) (h:dctM N n m es ep args s=some (r,s')) (hv:VRels G W args vs):
  ∃ id,Slot "dict" (G.nm m) id∧∀ {Q:Value→Shared→Prop},(∀ S' rc,Inv G C W l s' S'→VRel G W r rc→Q rc S')→wpAny (model G.prog G.w) A (call (.builtin id) (.ref a::vs)) Q E S:=by
 walk_at "e G C W l s S E A|O|N|hN hu I|n m ep a es args vs r s'|e ha h hv"
 refine oE (I.dict e ha) fun ds D=> ?_
 have sys:=I.notSys O ha
 refine zBo h (fun h2 q=> ?_) fun h2 uu=> ?_ <;> replace h:=h2 <;> clear h2
 ·have q:=Qy q
  subst q
  have en:G.nm N.get=Str.ofString "get" :=hN.d (N.get,"get") (by simp)
  refine ⟨"dict.get",en ▸ F.slot_dict_get,fun {Q} kk=> ?_⟩
  refine zL2 h (fun k h q=> ?_) fun k d h q=> ?_ <;> subst q
  ·refine vsC hv fun uu uu h1 h2=> ?_
   refine vsN h2 ?_
   refine zOO h (fun v h hf=> ?_) fun h hf=> ?_
   ·((refine oA (i2 h) fun q0z q1z=> ?_;subst q0z q1z))
    exact call_get1 I.pins hu sys D hf h1 fun tk v hv=>kk _ v I.toks hv
   ·((refine oA (i2 h) fun q0z q1z=> ?_;subst q0z q1z))
    exact call_get1 I.pins hu sys D hf h1 fun tk=>kk _ _ I.toks .non
  ·refine vsC hv fun uu uu h1 h2=> ?_
   refine vsC h2 fun uu uu h3 h4=> ?_
   refine vsN h4 ?_
   refine zOO h (fun v h hf=> ?_) fun h hf=> ?_
   ·((refine oA (i2 h) fun q0z q1z=> ?_;subst q0z q1z))
    exact call_get2 I.pins hu sys D hf h1 fun tk v hv=>kk _ v I.toks hv
   ·((refine oA (i2 h) fun q0z q1z=> ?_;subst q0z q1z))
    exact call_get2 I.pins hu sys D hf h1 fun tk=>kk _ _ I.toks h3
 ·walk_at "m m12 h h q"
  have q:=Qy q
  subst q
  have en:G.nm N.setdefault=Str.ofString "setdefault" :=hN.d (N.setdefault,"setdefault") (by simp)
  refine ⟨"dict.setdefault",en ▸ F.slot_dict_setdefault,fun {Q} kk=> ?_⟩
  walk_at "M m180 h k d h"
  refine vsC hv fun uu uu h1 h2=> ?_
  refine vsC h2 fun uu uu h3 h4=> ?_
  refine vsN h4 ?_
  refine zOO h (fun v h hf=> ?_) fun h hf=> ?_
  ·((refine oA (i2 h) fun q0z q1z=> ?_;subst q0z q1z))
   exact call_setdefault I.pins hu sys D hf (fun q=>by exact son q) h1 h3 fun tk v hv=>kk _ v I.toks hv
  ·walk_at "m m12 h h hsm"
   have hsm:=Zf hsm
   rw [snoc_eq] at h
   walk_at "m m10 h s2 h h2"
   ((refine oA (i2 h) fun q0z q1z=> ?_;subst q0z q1z))
   exact call_setdefault I.pins hu sys D hf (fun uu=>hsm) h1 h3 fun tk h' co' q1 q2 q3=>kk _ _ (I.upd ha h2 (fun b o hb e=>(q1.2 b hb).trans e) q2 q3) h3
theorem Inv.redo (I:Inv G C W l s S) {n:Nat} {a:Addr} {o':AO} {co':Obj} {h':Heap} {tk:Nat} (ha:W.σ[n]? =some a) (k:∀ b o,b≠a→S.heap.get? b=some o→h'.get? b=some o)
  (hg:h'.get? a=some co') (hs:s.h.get n=some o') (ho:OObj G W o' co'):Inv G C W l s { S with heap:=h',toks:=tk }:=by
 walk_at "e G C W l s S|I|n a o' co' h' tk|ha k hg hs ho"
 have hm:a∈W.σ:=Qx ha
 refine oAA (I.fresh a hm) fun f1 f2 uu=> ?_
 refine oEA (I.loc) fun m hn hl=> ?_
 refine ⟨fun b o e=>k b o (fun q=>by rw [q,f1] at e;exact nos e) (I.base b o e),fun p hp=>⟨k _ _ (fun q=>(I.pin p hp).2.1 (q ▸ hm)) (I.pin p hp).1,(I.pin p hp).2⟩,fun p hp=>⟨(I.keep p hp).1.map fun o e=>k _ o (fun q=>(I.keep p hp).2.1 (q ▸ hm)) e,(I.keep p hp).2⟩,I.pk,I.kb,I.kn,
  fun j o e=> ?_,I.len,I.nodup,fun b hb=> ?_,⟨m,?_,hl⟩,I.locB,I.gens,I.drawn,I.os⟩
 ·by_cases hj:j=n
  ·subst hj;rw [hs] at e;refine e1 e ?_;exact ⟨a,co',ha,hg,ho⟩
  ·refine oEEAA (I.objs j o e) fun b co h1 h2 h3=> ?_
   refine ⟨b,co,h1,k b co (fun q=> ?_) h2,h3⟩
   subst q
   exact hj ((List.getElem?_inj (Wn h1).1 I.nodup).mp (h1.trans ha.symm))
 ·refine oAAE (I.fresh b hb) fun h1 h2 o h3=> ?_
  by_cases q:b=a
  ·subst q;exact ⟨h1,h2,co',hg⟩
  ·exact ⟨h1,h2,o,k b o q h3⟩
 ·refine oEEEA hn fun o es ep h1 h2=> ?_;exact ⟨o,es,ep,k _ _ (Ne.symm f2) h1,h2⟩
theorem setM_sound {N:Nms} (hN:MNames G N) (I:Inv G C W l s S) {n m:Nat} {a:Addr} {xs args:List AV} {vs:List Value} {r:AV} {s':St}
  (e:s.h.get n=some (.set xs)) (ha:W.σ[n]? =some a) (h:setM N n m xs args s=some (r,s')) (hv:VRels G W args vs):
  ∃ id,Slot "set" (G.nm m) id∧∀ {Q:Value→Shared→Prop},(∀ S' rc,Inv G C W l s' S'→VRel G W r rc→Q rc S')→wpAny (model G.prog G.w) A (call (.builtin id) (.ref a::vs)) Q E S:=by
 walk_at "e G C W l s S E A N|hN I|n m a xs args vs r s'|e ha h hv"
 obtain ⟨co,hg,ss,rfl,hs,hsz⟩:=I.at e ha
 walk_at "m m12 h h q"
 have q:=Qy q
 subst q
 refine ⟨"set.add",hN.s ▸ F.slot_set_add,fun {Q} kk=> ?_⟩
 walk_at "M m109 h x h"
 refine vsC hv fun uu uu h1 h2=> ?_
 refine vsN h2 ?_
 refine vStr h1 fun t=> ?_
 have hkey:(PySem.strKind G.prog G.w).is (mkS x) (.str (mkS x) t)=true:=by
  refine (?_:Value.isStrOf (mkS x) (.str (mkS x) t)=true)
  simp [Value.isStrOf,Value.isStr]
 have hS:=hs.setOf hg (Nat.lt_of_le_of_lt hsz (by decide))
 have memEq:∀ b,memK (.str x) (ss.map AV.str)=some b→decide (mkS x∈ss.map mkS)=b:=fun b hb=>by
  refine oAA (memK_spec hb) fun h1 h2 h3=> ?_
  rw [Bool.eq_iff_iff,decide_eq_true_eq,h3]
  simp only [List.mem_map,AV.str.injEq,exists_eq_right]
  constructor
  ·intro q;refine oEA q fun y hy q=> ?_;rw [←mkS_inj q];exact hy
  ·intro q;exact ⟨x,q,rfl⟩
 refine call_set_add (knd:=PySem.strKind G.prog G.w) (k:=mkS x) hkey rfl hS (Nat.lt_of_le_of_lt (Nat.add_le_add_right hsz _) (by decide)) fun h' p1 p2=> ?_
 obtain ⟨co',g1,g2,es,ep,tt,g3,g4,g5,g6,g7⟩:=p2.objOf
 have keep:∀ b o,b≠a→S.heap.get? b=some o→h'.get? b=some o:=fun b o hb e=>(p1.2 b hb).trans e
 refine zOb h (fun h hm=> ?_) fun h hm=> ?_
 ·((refine oA (i2 h) fun q0z q1z=> ?_;subst q0z q1z))
  have hm:=memEq _ hm
  simp only [hm] at g6
  have so:co'.SetObjOf (strKind G.prog G.w) (fun k=>decide (k∈ss.map mkS)) ss.length:=⟨g2,es,ep,tt,g3,g4,fun k=>by
   rw [←g5 k]
   by_cases e:k=mkS x
   ·subst e;simp [Qd hm]
   ·simp [e],by simpa using g6,g7⟩
  exact kk _ _ (I.redo (tk:=S.toks+1) ha keep g1 e ⟨ss,rfl,so,hsz⟩) .non
 ·have hm:=memEq _ hm
  simp only [hm] at g6
  walk_at "m m12 h h hz"
  have hz:=Qh hz
  rw [Zd] at hz
  rw [snoc_eq] at h
  skip
  walk_at "m m10 h s2 h h2"
  ((refine oA (i2 h) fun q0z q1z=> ?_;subst q0z q1z))
  have so:co'.SetObjOf (strKind G.prog G.w) (fun k=>decide (k∈(ss++ [x]).map mkS)) (ss++ [x]).length:=⟨g2,es,ep,tt,g3,g4,fun k=>by
   rw [←g5 k]
   simp,by simpa using g6,g7⟩
  exact kk _ _ (I.upd (tk:=S.toks+1) ha h2 keep g1 ⟨ss++ [x],by simp,so,by simpa using hz⟩) .non
end
section
variable {G:Gl} {Ee:Ev} {g:Nat→Bool} {ok:WF→Prop}
noncomputable def CallF (G:Gl) (Ee:Ev) (f:Nat) (a:Addr):Prop:=∀ {C:Cx} {W:Wd} {l:Lo} {s:St} {S:Shared} {args:List AV} {vs:List Value} {v:AV} {s':St} {R:Result→Shared→Prop},
 Hand C→RoomC C l.dep→Inv G C W l.vs s S→callFn G.P Ee f args l s=some (v,s')→VRels G W args vs→(∀ W' S' vc,W.le W'→Inv G C W' l.vs s' S'→VRel G W' v vc→R (.ok (.ret vc)) S')→
 codeAny (model G.prog G.w) C.A (.call (.ref a) ⟨vs,[]⟩) R S
noncomputable def FnsOk (G:Gl) (Ee:Ev):Prop:=∀ f args l s r,callFn G.P Ee f args l s=some r→∃ a o fd,G.gad f=some (.ref a)∧G.B.get? a=some o∧o.data= .func fd∧CallF G Ee f a
theorem call_ref (FN:FnsOk G Ee) {C:Cx} {W:Wd} {l:Lo} {s:St} {S:Shared} {f:Nat} {a:Addr} {args:List AV} {vs:List Value} {v:AV} {s':St} {Q:Value→Shared→Prop} {X:Value→Shared→Prop} (ha:G.gad f=some (.ref a))
  (hh:Hand C) (R:RoomC C l.dep) (I:Inv G C W l.vs s S) (h:callFn G.P Ee f args l s=some (v,s')) (hv:VRels G W args vs) (k:Cont G C W l.vs s' v Q):wpAny (model G.prog G.w) C.A (call (.ref a) vs) Q X S:=by
 refine Yd (FN f args l s _ h) fun a' o fd h1 h2 h3 h4=> ?_
 rw [ha] at h1;cases h1
 exact wpAny_call (h4 hh R I h hv fun W' S' vc le I' r=>k W' S' vc le I' r)
theorem findA_okA {es:List (Nat × AV)} {k:Nat} (h:∀ e∈es,G.okA e.1=true) (hk:G.okA k=false):findA k es=none:=by
 induction es with
 | nil=>rfl
 | cons e r ih=>
  have:¬e.1=k:=fun q=>by have:=h e (.head _);rw [q,hk] at this;exact fat this
  exact (findA_f this).trans (ih fun e he=>h e (.tail _ he))
theorem oEm {β:Type} {r:β} {P:Prop} {x:Option MK} {A:MK→Option β} (h:(match x with | some m=>A m | none=>none)=some r) (k:∀ m,x=some m→A m=some r→P):P:=by
 cases x with
 | none=>exact nos h
 | some m=>exact k m rfl h
theorem peek_inv {n:Nat} {s:St} {mk:MK} {P:Prop} (h:peek (.ref n) s=some mk) (k1:∀ xs,s.h.get n=some (.list xs)→ .lst=mk→P) (k2:∀ es ep,s.h.get n=some (.dict es ep)→ .dct=mk→P) (k3:∀ xs,s.h.get n=some (.set xs)→ .st=mk→P)
  (k4:∀ c d es,s.h.get n=some (.inst c d)→s.h.get d=some (.attrs es)→ .ins c=mk→P):P:=by
 have key:∀ x:Option AO,(match x with
   | some (.list _)=>some MK.lst
   | some (.dict _ _)=>some .dct
   | some (.set _)=>some .st
   | some (.inst c d)=>(match s.h.get d with | some (.attrs _)=>some (.ins c) | _=>none)
   | _=>none)=some mk→s.h.get n=x→P:=by
  intro x h e
  cases x with
  | none=>exact nos h
  | some o=>
   cases o with
   | list xs=>exact k1 xs e (Qz h)
   | dict es ep=>exact k2 es ep e (Qz h)
   | set xs=>exact k3 xs e (Qz h)
   | inst c d=>exact m22 h fun es h e2=>k4 c d es e e2 (Qz h)
   | _=>exact nos h
 exact key _ h rfl
theorem ev_meth (Wh:Whole G) (MN:MNames G theN) (FN:FnsOk G Ee) (H:EOk G Ee) {o:CE} {m:Nat} {args:List CE} {pa p:Pos} (ho:∀ x q,o≠ .gl x q) (hw:wfE g (.meth o m args pa p)=true):EvAt G (stepE G.P theN Ee) g (.meth o m args pa p):=by
 intro C W l s S v s' Q X F R I h k
 walk_at "e G Ee g|Wh MN FN H|o m args pa p|ho hw|C W l s S v s' Q X|F R I h k"
 have h:(match Ee.ev o l s with
   | some (v,s)=>(match peek v s with
    | some mk=>(match evs (fun e s=>Ee.ev e l s) args s with
     | some (vs,s)=>methV G.P theN Ee mk v m vs l s
     | none=>none)
    | none=>none)
   | none=>none)=some (v,s'):=by
  cases o <;> first | exact h | exact absurd rfl (ho _ _)
 have hw:=bt4 hw;have hw:=And.intro (And.intro hw.1.1 (Qd hw.1.2)) hw.2
 have hw1:=hw.1.1.1.1;have hw2:=hw.1.1.1.2;have hw3:=hw.1.1.2;have hw4:=hw.1.2;have hw5:=hw.2
 walk_at "m m2 h ov s1 h h1"
 refine oEm h fun mk hm h=> ?_
 walk_at "m m27 h vs s2 h h2"
 show wpAny _ _ (eval (.Call (.Attribute (embE (C.em G) o) (G.nm m) pa) (embEs (C.em G) args) [] p) C.env) _ _ _
 rw [arm_eval_Call,base_emb _ _ _ _ _ hw5]
 refine Qq (H.ev g o hw1 F R I h1 fun W1 S1 oc le1 I1 r1=>Qq (wpAny_standAt ?_))
 refine meth_head hw3 hw4 fun pl=> ?_
 walk_at "M m174 hm n hm"
 refine vRef r1 fun ad ha=> ?_
 refine peek_inv hm (fun xs e1 q=> ?_) (fun es ep e1 q=> ?_) (fun xs e1 q=> ?_) fun c d es e1 e2 q=> ?_ <;> subst q
 ·walk_at "m m73 h xs2 h e2"
  refine oEA (lstM_slot MN h) fun id i1 i2=> ?_
  refine oEEAA (I1.list e1 ha) fun us q hg hr hl=> ?_
  refine Yk hl.typeIs PySem.F.plainAttrs_list i2 i1 (fun b hb=>by cases hb;exact ⟨_,hg,rfl⟩) ?_
  refine Calls.callWith_builtin (Vw _ _ _ _) (Xg H hw2 F R I1 h2 fun W2 S2 us le2 I2 r2=> ?_)
  refine oEAA (lstM_sound (A:=C.A) (E:=X) MN.l I2 e2 (le2.σ _ _ ha) h r2) fun id' j1 j2 j3=> ?_
  have:=slot_unique i2 j2
  subst this
  exact j3 fun S' rc I' r=>k W2 S' rc (le1.trans le2) I' r
 ·walk_at "m m19 h es2 ep2 h e2"
  refine oEA (dctM_slot MN h) fun id i1 i2=> ?_
  refine oE (I1.dict e1 ha) fun ds D=> ?_
  refine Yk D.typeIs PySem.F.plainAttrs_dict i2 i1 (fun b hb=>by cases hb;exact ⟨_,D.get,rfl⟩) ?_
  refine Calls.callWith_builtin (Vw _ _ _ _) (Xg H hw2 F R I1 h2 fun W2 S2 us le2 I2 r2=> ?_)
  refine oEA (dctM_sound (A:=C.A) (E:=X) Wh.o MN R.u7 I2 e2 (le2.σ _ _ ha) h r2) fun id' j2 j3=> ?_
  have:=slot_unique i2 j2
  subst this
  exact j3 fun S' rc I' r=>k W2 S' rc (le1.trans le2) I' r
 ·walk_at "m m130 h xs2 h e2"
  refine oEA (setM_slot MN h) fun id i1 i2=> ?_
  obtain ⟨co,hg,ss,rfl,hs,hsz⟩:=I1.at e1 ha
  have hS:=hs.setOf hg (Nat.lt_of_le_of_lt hsz (by decide))
  refine Yk hS.typeIs PySem.F.plainAttrs_set i2 i1 hS.noDict ?_
  refine Calls.callWith_builtin (Vw _ _ _ _) (Xg H hw2 F R I1 h2 fun W2 S2 us le2 I2 r2=> ?_)
  refine oEA (setM_sound (A:=C.A) (E:=X) MN I2 e2 (le2.σ _ _ ha) h r2) fun id' j2 j3=> ?_
  have:=slot_unique i2 j2
  subst this
  exact j3 fun S' rc I' r=>k W2 S' rc (le1.trans le2) I' r
 ·walk_at "m m9 h Cl h hc"
  walk_at "m m14 h f h hf"
  refine oEEEEAAAAAA (I1.inst e1 e2 ha) fun CA add ds q q1 q2 q3 q4 q5 q6 q7=> ?_
  refine oEAA (Wh.cls.cls c Cl hc) fun CA' g1 K KM=> ?_
  rw [q1] at g1;cases g1
  refine oEAAA (KM.meth m f hf) fun a m1 m2 m3 m4=> ?_
  have It:PySem.W.InstAt S1.heap ad (instObj CA add) CA (some (dictOf ds q)):=⟨q3,rfl,rfl,q4⟩
  have sh:shadowIn (some (dictOf ds q)) (G.nm m)=some false:=by
   have:=q5.find m
   rw [findA_okA q7 m4] at this
   show (lookIn (G.nm m) (dictOf ds q)).map _=_
   rw [lookIn_dict,this];rfl
  refine method_fn (Wh.o.kin.keeps I1.base) It (plainGet_of (K.get (G.nm m))).1 (plainGet_of (K.get (G.nm m))).2 m2 m3 sh ?_
  refine Yd (FN f _ l s2 _ h) fun a' ob fd n1 n2 n3 n4=> ?_
  rw [m1] at n1;cases n1
  refine Calls.callWith_function (o:=ob) (fd:=fd) (Xg H hw2 F R I1 h2 fun W2 S2 us le2 I2 r2=>⟨⟨I2.base _ _ n2,n3⟩,?_⟩)
  exact call_ref FN m1 F.hand R.c I2 h (.cons (.ref (le2.σ _ _ ha)) r2) fun W3 S3 vc le3 I3 r3=>k W3 S3 vc (le1.trans (le2.trans le3)) I3 r3
end
section
variable {G:Gl} {Ee:Ev} {g:Nat→Bool} {ok:WF→Prop}
noncomputable def Cx.at (C:Cx) (A:Around):Cx:={ C with A:=A }
theorem Inv.at' {C:Cx} {A:Around} {W:Wd} {l:Tr AV} {s:St} {S:Shared} (I:Inv G C W l s S):Inv G (C.at A) W l s S:=⟨I.base,I.pin,I.keep,I.pk,I.kb,I.kn,I.objs,I.len,I.nodup,I.fresh,I.loc,I.locB,I.gens,I.drawn,I.os⟩
theorem Inv.of_at {C:Cx} {A:Around} {W:Wd} {l:Tr AV} {s:St} {S:Shared} (I:Inv G (C.at A) W l s S):Inv G C W l s S:=⟨I.base,I.pin,I.keep,I.pk,I.kb,I.kn,I.objs,I.len,I.nodup,I.fresh,I.loc,I.locB,I.gens,I.drawn,I.os⟩
theorem tc_weight (C:Addr) (rest:List Value):(Code.builtin "type.__call__" ⟨.ref C::rest,[]⟩).weight=1:=by kernel_rfl
theorem tc_units (C:Addr) (rest:List Value):(Code.builtin "type.__call__" ⟨.ref C::rest,[]⟩).cUnits=1:=by kernel_rfl
theorem tc_guards (C:Addr) (rest:List Value):(Code.builtin "type.__call__" ⟨.ref C::rest,[]⟩).guards=[]:=by kernel_rfl
theorem Hand.tc {C:Cx} {CA:Addr} {vs:List Value} (hh:Hand C):Hand (C.at (C.A.under (.builtin "type.__call__" ⟨.ref CA::vs,[]⟩))):=by
 walk_at "e C CA vs|hh"
 refine oAEAAAA hh fun h1 outer h2 h3 h4 h5 h6=> ?_
 refine ⟨h1,outer,h2,h3,h4,h5,?_⟩
 refine (?_:pushGuards (Code.builtin "type.__call__" ⟨.ref CA::vs,[]⟩).guards C.A.guards=_)
 rw [tc_guards]
 exact h6
theorem call_cls' (Wh:Whole G) (FN:FnsOk G Ee) {C:Cx} {W:Wd} {l:Lo} {s s1 s2 s':St} {S:Shared} {k d:Nat} {Cl:Cls} {CA:Addr} {x:AV} {args:List AV} {vs:List Value} {Q:Value→Shared→Prop} {X:Value→Shared→Prop}
  (hc:G.P.cls k=some Cl) (hg:G.gad k=some (.ref CA)) (hh:Hand C) (R:Room C l.dep) (I:Inv G C W l.vs s S) (h1:s.new (.attrs [])=some (.ref d,s1)) (h2:s1.new (.inst k d)=some (x,s2)) (h3:callFn G.P Ee Cl.init (x::args) l s2=some (.non,s'))
  (hv:VRels G W args vs) (kk:Cont G C W l.vs s' x Q):wpAny (model G.prog G.w) C.A (call (.ref CA) vs) Q X S:=by
 walk_at "e G Ee|Wh FN|C W l s s1 s2 s' S k d Cl CA x args vs Q X|hc hg hh R I h1 h2 h3 hv kk"
 refine oEAA (Wh.cls.cls k Cl hc) fun CA' g1 K KM=> ?_
 rw [hg] at g1;cases g1
 refine oEAA (KM.init) fun fI i1 i2 i3=> ?_
 have X0:G.K.In S.heap:=Wh.o.kin.keeps I.base
 refine wpAny_call ?_
 obtain ⟨hp,gg,dd,t,os⟩:=S
 refine make_core (makes_of X0 KM.makes) (looks_findIn X0 i2) (fun self=>bind_fn X0 self i3) (.inl rfl) ?_
 refine oAA (I.fresh' (co:=emptyDict) h1 ⟨[],0,rfl,.nil,by simp,by simp⟩ rfl) fun le1 I1 r1=> ?_
 have hd:d=s.nx:=by
  have:=(I.new (tk:=t) (co:=emptyDict) (h':=hp.push emptyDict) h1 (Xw _) (Xk _ _) (Xd _ rfl) ⟨[],0,rfl,.nil,by simp,by simp⟩).1
  cases this;rfl
 have r1:=vRf r1
 have ob:OObj G ⟨W.σ++ [hp.objs.size],W.pin⟩ (.inst k d) (instObj CA hp.objs.size):=⟨CA,hp.objs.size,hg,r1,rfl⟩
 refine oAA (I1.fresh' (co:=instObj CA hp.objs.size) h2 ob rfl) fun le2 I2 r2=> ?_
 have hsz:(hp.push emptyDict).objs.size=hp.objs.size+1:=Heap.size_push ..
 simp only [hsz] at I2 r2 le2
 have R2:RoomC (C.at (C.A.under (.builtin "type.__call__" ⟨.ref CA::vs,[]⟩))) l.dep:=by
  have a:=R.1
  have b:=R.2
  refine ⟨?_,?_⟩
  ·refine (?_:C.A.units+(Code.builtin "type.__call__" ⟨.ref CA::vs,[]⟩).cUnits+16 * l.dep+30≤cLine)
   rw [tc_units];lia
  ·refine (?_:C.A.depth+(Code.builtin "type.__call__" ⟨.ref CA::vs,[]⟩).weight+4 * l.dep+2≤recursionLimit)
   rw [tc_weight];lia
 refine Yd (FN _ _ l s2 _ h3) fun a' o fd n1 n2 n3 n4=> ?_
 rw [i1] at n1;cases n1
 refine n4 (C:=C.at (C.A.under (.builtin "type.__call__" ⟨.ref CA::vs,[]⟩))) hh.tc R2 I2.at' h3 (.cons r2 (hv.mono (le1.trans le2))) fun W3 S3 vc le3 I3 r3=> ?_
 refine vNon r3 ?_
 exact ⟨rfl,kk W3 S3 _ (le1.trans (le2.trans le3)) I3.of_at (r2.mono le3)⟩
end
section
variable {G:Gl} {Ee:Ev} {g:Nat→Bool} {ok:WF→Prop}
theorem callWith_class {A:Around} {S:Shared} {X:Value→Shared→Prop} {pos:Pos} {CA:Addr} {args:List (Bool × Sem Value)} {Q:Value→Shared→Prop} (hm:makesIn G.K CA=true) (hplain:args.any (·.1)=false)
  (h:wpAny (model G.prog G.w) A (evalArgs (.ref CA) true args []) (fun a s₁=>G.K.In s₁.heap∧wpAny (model G.prog G.w) A (call (.ref CA) a.pos a.kw) Q X s₁) X S):
  wpAny (model G.prog G.w) A (callWith pos (.ref CA) [] args []) Q X S:=by
 refine Qq (Qg (wpAny_mono h (fun a s₁ h₁=>Qq (wpAny_standAt ?_)) fun uu uu x=>x))
 have Y:=makes_of (M:=model G.prog G.w) h₁.1 hm
 obtain ⟨oc,od,cd,sl,hC,_⟩:=Y.obj
 refine Qq (m:=keeperOf (.ref CA)) ?_
 refine Qq (wpAny_load hC ?_)
 refine Qq (Y.call.here ?_)
 rw [if_pos (by rfl)]
 refine Qw ?_
 simp only [hplain,List.any_nil,Bool.or_false]
 exact Qq (wpAny_mono h₁.2 (fun r s₂ hr=>Qq (Qg (wpAny_point (Qw hr)))) fun uu uu x=>x)
noncomputable def BltOk (G:Gl) (Ee:Ev):Prop:=∀ {g:Nat→Bool} {f:Nat} {pf p:Pos} {args:List CE},wfE g (.calG f pf args p)=true→G.P.glob f=none→∀ {C:Cx} {W:Wd} {l:Lo} {s s1:St} {S:Shared} {vs:List AV} {v:AV} {s':St} {Q:Value→Shared→Prop} {X:Value→Shared→Prop},
 Env0 G C g→Room C l.dep→Inv G C W l.vs s S→evs (fun e s=>Ee.ev e l s) args s=some (vs,s1)→callV G.P theN Ee f vs l s1=some (v,s')→Cont G C W l.vs s' v Q→
 wpAny (model G.prog G.w) C.A (eval (embE (C.em G) (.calG f pf args p)) C.env) Q X S
theorem calG_glob (Wh:Whole G) (FN:FnsOk G Ee) (H:EOk G Ee) {f:Nat} {gv:AV} {pf p:Pos} {args:List CE} (hw:wfE g (.calG f pf args p)=true) (hg:G.P.glob f=some gv) {C:Cx} {W:Wd} {l:Lo} {s s1:St} {S:Shared} {vs:List AV} {v:AV} {s':St} {Q:Value→Shared→Prop} {X:Value→Shared→Prop}
  (F:Env0 G C g) (R:Room C l.dep) (I:Inv G C W l.vs s S) (h1:evs (fun e s=>Ee.ev e l s) args s=some (vs,s1)) (h:callV G.P theN Ee f vs l s1=some (v,s')) (k:Cont G C W l.vs s' v Q):
  wpAny (model G.prog G.w) C.A (eval (embE (C.em G) (.calG f pf args p)) C.env) Q X S:=by
 walk_at "e G Ee g|Wh FN H|f gv pf p args|hw hg|C W l s s1 S vs v s' Q X|F R I h1 h k"
 replace hw:=bt2 hw
 refine wpAny_Call_NameR (I.gload F Wh.names hw.1.1 hg fun fv rf=> ?_)
 replace h:=mGs h hg
 walk_at "M m191 h k' h"
 have rf:=vGlo rf
 refine zCl h (fun Cl h hc=> ?_) fun h uu=> ?_
 ·skip
  refine oEAA (Wh.cls.cls k' Cl hc) fun CA g1 K KM=> ?_
  rw [rf] at g1;cases g1
  walk_at "m m37 h d s2 h h2"
  walk_at "m m2 h x s3 h h3"
  walk_at "m m196 h s4 h h4"
  ((refine oA (i2 h) fun q0z q1z=> ?_;subst q0z q1z))
  refine callWith_class KM.makes (Vw _ _ _ _) (Xg H hw.1.2 F R I h1 fun W1 S1 us le1 I1 r1=>⟨Wh.o.kin.keeps I1.base,?_⟩)
  exact call_cls' Wh FN hc rf F.hand R I1 h2 h3 h4 r1 fun W2 S2 vc le2 I2 r2=>k W2 S2 vc (le1.trans le2) I2 r2
 ·refine Yd (FN k' vs l s1 _ h) fun a o fd n1 n2 n3 n4=> ?_
  rw [rf] at n1;cases n1
  refine Calls.callWith_function (o:=o) (fd:=fd) (Xg H hw.1.2 F R I h1 fun W1 S1 us le1 I1 r1=>⟨⟨I1.base _ _ n2,n3⟩,?_⟩)
  exact call_ref FN rf F.hand R.c I1 h r1 fun W2 S2 vc le2 I2 r2=>k W2 S2 vc (le1.trans le2) I2 r2
end
section
variable {G:Gl} {Ee:Ev} {C:Cx} {W:Wd} {l:Tr AV} {s:St} {S:Shared} {A:Around} {E:Value→Shared→Prop}
theorem len_plain {v:AV} {vc:Value} {n:Nat} {Q:Value→Shared→Prop} (I:Inv G C W l s S) (hv:VRel G W v vc)
  (h:(∃ xs,v= .tup xs∧small xs=true∧n=xs.length)∨(∃ m xs,v= .ref m∧s.h.get m=some (.list xs)∧small xs=true∧n=xs.length)∨(∃ m xs,v= .ref m∧s.h.get m=some (.set xs)∧n=xs.length))
  (k:∀ t tk,Q (.int (n:Int) t) { S with toks:=tk }):wpAny (model G.prog G.w) A (call (.builtin "len") [vc]) Q E S:=by
 walk_at "e G C W l s S A E v vc n Q|I hv h k"
 rcases h with ⟨xs,rfl,hs,rfl⟩ | ⟨m,xs,rfl,e,hs,rfl⟩ | ⟨m,xs,rfl,e,rfl⟩
 ·(refine oEEAA (I.pins.tup hv) fun a vs q2z ht hr=> ?_;subst q2z)
  have hl:=hr.length
  have hs:=Zf hs
  refine PyProof.Rows.len_tuple ht (by simp;lia) ?_
  have e1:(vs.toArray.size:Int)=(xs.length:Int):=by simp [hl]
  rw [e1];exact k _ _
 ·refine vRef hv fun ad ha=> ?_
  refine oEEAA (I.list e ha) fun vs q hg hr hl=> ?_
  have hlen:=hr.length
  have hs:=Zf hs
  refine Calls.call_len_list hl (by simp;lia) ?_
  have e1:(vs.toArray.size:Int)=(xs.length:Int):=by simp [hlen]
  rw [e1];exact k _ _
 ·refine vRef hv fun ad ha=> ?_
  obtain ⟨co,hg,ss,rfl,hs,hsz⟩:=I.at e ha
  refine oAEEEAAAA hs fun hex es ep t hd uu uu hn hf=> ?_
  refine call_len_set hg hex hd hf (by rw [hn];lia) ?_
  have e1:(es.size:Int)=((ss.map AV.str).length:Int):=by simp [hn]
  rw [e1];exact k _ _
theorem tuple_of_list {m:Nat} {xs:List AV} {vc:Value} {Q:Value→Shared→Prop} (I:Inv G C W l s S) (hv:VRel G W (.ref m) vc) (e:s.h.get m=some (.list xs)) (hs:small xs=true) (k:Cont G C W l s (.tup xs) Q):
  wpAny (model G.prog G.w) A (call (.type "tuple") [vc]) Q E S:=by
 refine vRef hv fun ad ha=> ?_
 refine oEEAA (I.list e ha) fun vs q hg hr hl=> ?_
 have hlen:=hr.length
 have hs:=Zf hs
 have sz:=Zv
 refine call_tuple_list hl (fun h' hk=> ?_) (by simp;lia)
 have J:Inv G C W l s { S with heap:=h',toks:=S.toks }:=I.grow hk
 refine oEAA (J.freshTup hr) fun W' le J2 r=> ?_
 exact k _ _ _ le J2 r
theorem tuple_of_tuple {xs:List AV} {vc:Value} {Q:Value→Shared→Prop} (I:Inv G C W l s S) (hv:VRel G W (.tup xs) vc) (k:Cont G C W l s (.tup xs) Q):wpAny (model G.prog G.w) A (call (.type "tuple") [vc]) Q E S:=by
 obtain ⟨a,vs,rfl,⟨o,ho,hoc,n,hod⟩,hr⟩:=I.pins.tup hv
 exact call_tuple_same ⟨o,ho,hoc,n,hod⟩ (k _ _ _ (.refl W) I hv)
theorem set_new {v:AV} {s':St} {Q:Value→Shared→Prop} (I:Inv G C W l s S) (h:s.new (.set [])=some (v,s')) (k:Cont G C W l s' v Q):wpAny (model G.prog G.w) A (call (.type "set") []) Q E S:=by
 refine call_set_0 fun led=> ?_
 refine oAA (I.fresh' (co:={ cls:= .type "set",dict:=none,data:= .set #[] 0 (.fresh 0 0 led) }) h ⟨[],rfl,by simpa using setObjOf_fresh (knd:=PySem.strKind G.prog G.w) led,by simp⟩ rfl) fun le J r=> ?_
 exact k _ _ _ le J r
end
section
variable {G:Gl} {Ee:Ev} {g:Nat→Bool} {ok:WF→Prop}
structure Rare (G:Gl) (ok:WF→Prop):Prop where
 blt:∀ Ee,EOk2 G ok Ee→FnsOk G Ee→BltOk G Ee
 keys:∀ Ee,EOk2 G ok Ee→∀ g x q m args pa p,wfE g (.meth (.gl x q) m args pa p)=true→EvAt G (stepE G.P theN Ee) g (.meth (.gl x q) m args pa p)
 vals:∀ Ee,EOk2 G ok Ee→∀ g f pf o m pa pm p,Nat.beq f theN.list=true→wfE g (.calG f pf [.meth o m [] pa pm] p)=true→EvAt G (stepE G.P theN Ee) g (.calG f pf [.meth o m [] pa pm] p)
 clo:∀ Ee,EOk2 G ok Ee→∀ g x pf args p,wfE g (.calL x pf args p)=true→EvAt G (stepE G.P theN Ee) g (.calL x pf args p)
theorem bm {β:Type} {P:Prop} {b:Bool} {X Y r:β} (h:(match b with | true=>X | false=>Y)=r) (k1:b=true→X=r→P) (k2:b=false→Y=r→P):P:=by
 cases b with
 | true=>exact k1 rfl h
 | false=>exact k2 rfl h
theorem ea {β:Type} {args:List CE} {A:CE→Nat→Pos→Pos→β} {B r:β} (ha:¬ ∃ o m pa pm,args=[.meth o m [] pa pm]) (h:(match (generalizing:=false) args with | [.meth o m [] pa pm]=>A o m pa pm | _=>B)=r):B=r:=by
 cases args with
 | nil=>exact h
 | cons x y=>
  cases x with
  | meth o m l pa pm=>
   cases y with
   | cons a b=>cases l <;> exact h
   | nil=>
    cases l with
    | nil=>exact absurd ⟨_,_,_,_,rfl⟩ ha
    | cons a b=>exact h
  | _=>cases y <;> exact h
theorem calG_inv {P:Pr} {N:Nms} {E:Ev} {f:Nat} {pf p:Pos} {args:List CE} {l:Lo} {s:St} {r:AV × St} (ha:Nat.beq f N.list=true→¬ ∃ o m pa pm,args=[.meth o m [] pa pm]) (h:evStep P N E (.calG f pf args p) l s=some r):(match evs (fun e s=>E.ev e l s) args s with | some (vs,s)=>callV P N E f vs l s | none=>none)=some r:=
 bm h (fun hl h=>ea (ha hl) h) fun uu h=>h
theorem ev_calG (Wh:Whole G) (RA:Rare G ok) (FN:FnsOk G Ee) (H:EOk2 G ok Ee) {f:Nat} {pf p:Pos} {args:List CE} (hw:wfE g (.calG f pf args p)=true):EvAt G (stepE G.P theN Ee) g (.calG f pf args p):=by
 walk_at "e G Ee g ok|Wh RA FN H|f pf p args|hw"
 have gen:(Nat.beq f theN.list=true→¬ ∃ o m pa pm,args=[.meth o m [] pa pm])→EvAt G (stepE G.P theN Ee) g (.calG f pf args p):=by
  intro ha C W l s S v s' Q X F R I h k
  replace h:=calG_inv (pf:=pf) (p:=p) ha h
  walk_at "m m27 h vs s1 h h1"
  cases hg:G.P.glob f with
  | some gv=>exact calG_glob Wh FN H.toEOk hw hg F R I h1 h k
  | none=>exact RA.blt Ee H FN hw hg F R I h1 h k
 rcases Bool.eq_false_or_eq_true (Nat.beq f theN.list) with hl | hl
 ·rcases Classical.em (∃ o m pa pm,args=[.meth o m [] pa pm]) with ha | ha
  ·obtain ⟨o,m,pa,pm,rfl⟩:=ha
   exact @Rare.vals _ _ RA Ee H g f pf o m pa pm p hl hw
  ·exact @gen fun uu=>ha
 ·exact @gen fun q=>nomatch hl.symm.trans q
theorem ev_step (Wh:Whole G) (MN:MNames G theN) (RA:Rare G ok) (FN:FnsOk G Ee) (H:EOk2 G ok Ee) (g:Nat→Bool) (e:CE) (hw:wfE g e=true):EvAt G (stepE G.P theN Ee) g e:=by
 cases e with
 | non p=>exact @ev_non _ _ _ _ _
 | boo b p=>exact @ev_boo _ _ _ _ _ _
 | num n p=>exact @ev_num _ _ _ _ _ _
 | str k p=>exact @ev_str _ _ _ _ _ _
 | loc x p=>exact @ev_loc _ _ _ _ _ _
 | gl x p=>exact @ev_gl _ _ _ _ Wh.names _ _ hw
 | attr e a p=>exact @ev_attr _ _ _ _ Wh.o Wh.cls Wh.okA H.toEOk _ _ _ hw
 | sub e i p=>exact @ev_sub _ _ _ _ H.toEOk _ _ _ hw
 | slc e lo hi ps p=>exact @ev_slc _ _ _ _ H.toEOk _ _ _ _ _ hw
 | cmp a op b p=>exact @ev_cmp _ _ _ _ Wh.o H.toEOk _ _ _ _ hw
 | and es p=>intro C W l s S v s' Q X F R I h k;exact nos h
 | or es p=>intro C W l s S v s' Q X F R I h k;exact nos h
 | not e p=>intro C W l s S v s' Q X F R I h k;exact nos h
 | neg e p=>exact @ev_neg _ _ _ _ H.toEOk _ _ hw
 | bin a op b p=>exact @ev_bin _ _ _ _ H.toEOk _ _ _ _ hw
 | ifx t a b p=>exact @ev_ifx _ _ _ _ H.toEOk _ _ _ _ hw
 | lst es p=>exact @ev_lst _ _ _ _ H.toEOk _ _ hw
 | tup es p=>exact @ev_tup _ _ _ _ H.toEOk _ _ hw
 | dic p=>exact @ev_dic _ _ _ _ _
 | meth o m args pa p=>
  rcases Classical.em (∃ x q,o= .gl x q) with ho | ho
  ·obtain ⟨x,q,rfl⟩:=ho
   exact @Rare.keys _ _ RA Ee H g x q m args pa p hw
  ·exact @ev_meth _ _ _ Wh MN FN H.toEOk _ _ _ _ _ (fun x q e=>ho ⟨x,q,e⟩) hw
 | calL x pf args p=>exact @Rare.clo _ _ RA Ee H g x pf args p hw
 | calG f pf args p=>exact @ev_calG _ _ _ _ Wh RA FN H _ _ _ _ hw
structure FnTab (G:Gl) (ok:WF→Prop):Prop where
 fn:∀ f F,G.P.fn f=some F→∃ a o fd,G.gad f=some (.ref a)∧G.B.get? a=some o∧o.data= .func fd∧∀ Ee,EOk2 G ok Ee→CallAt G Ee F a
 prim:∀ f args s r,G.P.fn f=none→G.P.prim f args s=some r→∃ a o fd,G.gad f=some (.ref a)∧G.B.get? a=some o∧o.data= .func fd∧∀ Ee,EOk2 G ok Ee→CallF G Ee f a
theorem fns_ok (T:FnTab G ok) (H:EOk2 G ok Ee):FnsOk G Ee:=by
 intro f args l s r h
 cases hf:G.P.fn f with
 | some F=>
  refine Yd (T.fn f F hf) fun a o fd h1 h2 h3 h4=> ?_
  refine ⟨a,o,fd,h1,h2,h3,fun {C W l s S args vs v s' R} hh Rm I h hv k=> ?_⟩
  unfold callFn at h
  rw [hf] at h
  exact h4 Ee H hh Rm I h hv k
 | none=>
  have h':=h
  unfold callFn at h'
  rw [hf] at h'
  refine Yd (T.prim f args s r hf h') fun a o fd h1 h2 h3 h4=> ?_
  exact ⟨a,o,fd,h1,h2,h3,h4 Ee H⟩
theorem lvl_ok (Wh:Whole G) (MN:MNames G theN) (RA:Rare G ok) (SP:SpecOk G ok) (T:FnTab G ok):∀ n,EOk2 G ok (lvl G.P theN n)
 | 0=>⟨⟨fun g e uu=>by intro C W l s S v s' Q X F R I h k;exact nos h,fun g e uu=>by intro C W l s S v s' Q X F R I h k;exact nos h⟩,fun w uu b uu=>by intro C W l s S fl l' s' Q X F R I h k;exact nos h⟩
 | n+1=>by
  have H:=lvl_ok Wh MN RA SP T n
  exact ⟨⟨fun g e hw=>ev_step Wh MN RA (fns_ok T H) H g e hw,fun g e hw=>ts_step Wh.o H.toEOk e hw⟩,fun w hwk b hw=>exs_step Wh SP H hwk b hw⟩
end
section
variable {G:Gl} {Ee:Ev} {g:Nat→Bool} {ok:WF→Prop}
theorem Room.in1 {C:Cx} {d:Nat} (h:Room C d):RoomC (C.at C.A.in1) d:=⟨by have:=h.1;refine (?_:C.A.units+1+16 * d+30≤cLine);lia,by have:=h.2;refine (?_:C.A.depth+4 * d+2≤recursionLimit);lia⟩
theorem len_inst (Wh:Whole G) (FN:FnsOk G Ee) {C:Cx} {W:Wd} {l:Lo} {s:St} {S:Shared} {n c d:Nat} {es:List (Nat × AV)} {Cl:Cls} {f k:Nat} {vc:Value} {s':St} {Q:Value→Shared→Prop} {X:Value→Shared→Prop} (hh:Hand C) (R:Room C l.dep)
  (I:Inv G C W l.vs s S) (hv:VRel G W (.ref n) vc) (e1:s.h.get n=some (.inst c d)) (hc:G.P.cls c=some Cl) (hl:Cl.len=some f) (h:callFn G.P Ee f [.ref n] l s=some (.int (.ofNat k),s')) (hk:k≤4000)
  (kk:Cont G C W l.vs s' (.int (.ofNat k)) Q):wpAny (model G.prog G.w) C.A (call (.builtin "len") [vc]) Q X S:=by
 walk_at "e G Ee|Wh FN|C W l s S n c d es Cl f k vc s' Q X|hh R I hv e1 hc hl h hk kk"
 refine vRef hv fun ad ha=> ?_
 obtain ⟨co,hg,CA,add,h2,h3,rfl⟩:=I.at e1 ha
 refine oEAA (Wh.cls.cls c Cl hc) fun CA' g1 K KM=> ?_
 rw [h2] at g1;cases g1
 refine oEAA (KM.len f hl) fun a l1 l2 l3=> ?_
 refine oAAE (I.fresh add (Qx h3)) fun uu uu od hod=> ?_
 have X0:G.K.In S.heap:=Wh.o.kin.keeps I.base
 have It:PySem.W.InstAt S.heap ad (instObj CA add) CA (some od):=⟨hg,rfl,rfl,hod⟩
 refine Calls.call_function_entry kind_len plain_len entry_len (args_len1 _) ?_
 refine Qq (m:=oneArg "len" _) (Qw ?_)
 refine Qq (m:=callSpecial? (.ref ad) (Str.ofString "__len__")) (special_fn (args:=[]) X0 It l2 l3 ?_)
 refine call_ref (C:=C.at C.A.in1) FN l1 hh R.in1 I.at' h (.cons (.ref ha) .nil) fun W1 S1 vc le1 I1 r1=> ?_
 refine vInt r1 fun t=> ?_
 have hk0:¬(Int.ofNat k < 0):=by simp
 have hk1:¬(Int.ofNat k ≥ 2 ^ 63):=by refine (?_:¬(((k:Nat):Int) ≥ 2 ^ 63));lia
 refine Qq (Qg (Qw ?_))
 refine Qq (wpAny_letGo ?_)
 generalize hz:Int.ofNat k=z at *
 rw [if_neg hk0]
 rw [if_neg hk1]
 exact Qq (wpAny_mkInt (Qw ⟨_,rfl,kk _ _ _ le1 (I1.of_at.toks) (.int _ _)⟩))
theorem min_sound {C:Cx} {W:Wd} {l:Tr AV} {s:St} {S:Shared} {i j:Int} {v:AV} {a b:Value} {Q:Value→Shared→Prop} {X:Value→Shared→Prop} (hh:C.A.handled=none) (I:Inv G C W l s S) (ha:VRel G W (.int i) a) (hb:VRel G W (.int j) b)
  (h:(match ltI j i with | true=>some (AV.int j,s) | false=>some (AV.int i,s))=some (v,s)) (k:Cont G C W l s v Q):wpAny (model G.prog G.w) C.A (call (.builtin "min") [a,b]) Q X S:=by
 walk_at "e G C W l s S i j v a b Q X|hh I ha hb h k"
 refine vInt ha fun t=> ?_
 refine vInt hb fun u=> ?_
 refine min_two_ints hh fun h' tk hk=> ?_
 have J:Inv G C W l s { S with heap:=h',toks:=tk }:=I.grow hk
 rw [ltI_eq] at h
 by_cases q:j < i
 ·simp only [q,decide_true] at h
  cases h
  rw [if_pos q]
  exact k _ _ _ (.refl W) J (.int _ _)
 ·simp only [q,decide_false] at h
  cases h
  rw [if_neg q]
  exact k _ _ _ (.refl W) J (.int _ _)
end
section
variable {G:Gl} {C:Cx} {W:Wd} {l:Tr AV} {s:St} {S:Shared} {A:Around} {E:Value→Shared→Prop}
theorem list_of_tuple {xs:List AV} {vc:Value} {v:AV} {s':St} {Q:Value→Shared→Prop} (I:Inv G C W l s S) (hv:VRel G W (.tup xs) vc) (hs:small xs=true) (h:s.new (.list xs)=some (v,s')) (k:Cont G C W l s' v Q):
  wpAny (model G.prog G.w) A (call (.type "list") [vc]) Q E S:=by
 obtain ⟨a,vs,rfl,⟨o,ho,hoc,n,hod⟩,hr⟩:=I.pins.tup hv
 have hl:=hr.length
 have hs:=Zf hs
 have sz:=Zv
 refine call_list_seq (hsz:=by simp;lia) a (.inr rfl) ho hoc hod fun h' c' hk hD=> ?_
 refine oAA (I.new (tk:=S.toks) h (Xw _) hk hD ⟨vs,c',rfl,hr.mono (W.le_obj _)⟩) fun uu J r=> ?_
 exact k _ _ _ (W.le_obj _) J r
end
section
variable {G:Gl} {Ee:Ev} {ok:WF→Prop}
noncomputable def GetAttrOk (G:Gl):Prop:=∀ {C:Cx} {W:Wd} {l:Lo} {s:St} {S:Shared} {vs:List AV} {us:List Value} {v:AV} {s':St} {Q:Value→Shared→Prop} {X:Value→Shared→Prop} {Ee:Ev},
 C.A.handled=none→Room C l.dep→Inv G C W l.vs s S→VRels G W vs us→G.P.glob theN.getattr=none→callV G.P theN Ee theN.getattr vs l s=some (v,s')→Cont G C W l.vs s' v Q→wpAny (model G.prog G.w) C.A (call (.builtin "getattr") us) Q X S
theorem lenV_inv {P:Pr} {E:Ev} {v:AV} {l:Lo} {s:St} {r:AV × St} {Q:Prop} (h:lenV P E v l s=some r) (k1:∀ xs,v= .tup xs→small xs=true→r=(.int (.ofNat (lenN xs)),s)→Q)
  (k2:∀ n xs,v= .ref n→s.h.get n=some (.list xs)→small xs=true→r=(.int (.ofNat (lenN xs)),s)→Q) (k3:∀ n xs,v= .ref n→s.h.get n=some (.set xs)→r=(.int (.ofNat (lenN xs)),s)→Q)
  (k4:∀ n c d C f m s2,v= .ref n→s.h.get n=some (.inst c d)→P.cls c=some C→C.len=some f→callFn P E f [v] l s=some (.int (.ofNat m),s2)→Nat.ble m 4000=true→r=(.int (.ofNat m),s2)→Q):Q:=by
 cases v with
 | tup xs=>
  walk_at "m m12 h h hs"
  rw [Zk] at h
  exact k1 xs rfl hs (Qz h).symm
 | ref n=>
  have key:∀ x:Option AO,s.h.get n=x→(match x with
   | some (.list xs)=>(match small xs with
    | true=>plainN (lenN xs) fun n=>some (AV.int (.ofNat n),s)
    | false=>none)
   | some (.set xs)=>plainN (lenN xs) fun n=>some (.int (.ofNat n),s)
   | some (.inst c _)=>(match P.cls c with
    | some C=>(match C.len with
     | some f=>(match callFn P E f [.ref n] l s with
      | some (.int (.ofNat n),s)=>(match Nat.ble n 4000 with
       | true=>some (.int (.ofNat n),s)
       | false=>none)
      | _=>none)
     | none=>none)
    | none=>none)
   | _=>none)=some r→Q:=by
   intro x e h
   cases x with
   | none=>exact nos h
   | some o=>
    cases o with
    | list xs=>
     walk_at "m m12 h h hs"
     rw [Zk] at h
     exact k2 n xs rfl e hs (Qz h).symm
    | set xs=>
     replace h:plainN (lenN xs) (fun n=>some (AV.int (.ofNat n),s))=some r:=h
     rw [Zk] at h
     exact k3 n xs rfl e (Qz h).symm
    | inst c d=>
     walk_at "m m9 h C h hc"
     walk_at "m m14 h f h hf"
     walk_at "m m136 h m s2 h h2"
     walk_at "m m12 h h hk"
     exact k4 n c d C f m s2 rfl e hc hf h2 hk (Qz h).symm
    | _=>exact nos h
  exact key _ rfl h
 | _=>exact nos h
theorem tup_a {β:Type} {r:β} {P:Prop} {x:List AV} {A:Nat→Option β} {B:List AV→Option β} (h:(match x with | [.ref n]=>A n | [.tup xs]=>B xs | _=>none)=some r) (k1:∀ n,A n=some r→x=[.ref n]→P) (k2:∀ xs,B xs=some r→x=[.tup xs]→P):P:=by
 rcases x with _ | ⟨x,_ | ⟨y,z⟩⟩
 ·exact nos h
 ·cases x <;> first | exact nos h | exact k1 _ h rfl | exact k2 _ h rfl
 ·cases x <;> exact nos h
theorem blt_inv {P:Pr} {N:Nms} {E:Ev} {f:Nat} {args:List AV} {l:Lo} {s:St} {r:AV × St} {Q:Prop} (hg:P.glob f=none) (h:callV P N E f args l s=some r) (k1:f=N.len→∀ v,args=[v]→lenV P E v l s=some r→Q)
  (k2:f=N.tuple→∀ n xs,args=[.ref n]→s.h.get n=some (.list xs)→small xs=true→r=(.tup xs,s)→Q) (k3:f=N.tuple→∀ xs,args=[.tup xs]→r=(.tup xs,s)→Q) (k4:f=N.list→∀ xs,args=[.tup xs]→small xs=true→s.new (.list xs)=some r→Q)
  (k5:f=N.min→∀ i j,args=[.int i,.int j]→(match ltI j i with | true=>some (AV.int j,s) | false=>some (AV.int i,s))=some r→Q) (k6:f=N.set_→args=[]→s.new (.set [])=some r→Q) (k7:f=N.getattr→Q):Q:=by
 walk_at "e P N E f args l s|hg h k1 k2 k3 k4 k5 k6 k7"
 have b:∀ {m:Nat},Nat.beq f m=true→f=m:=Qy
 replace h:=mGl h hg
 refine zBo h (fun h q=> ?_) fun h uu=> ?_
 ·refine m44 h fun v h e=>k1 (b q) v e h
 refine zBo h (fun h q=> ?_) fun h uu=> ?_
 ·refine tup_a h (fun n h e=> ?_) fun xs h e=> ?_
  ·walk_at "m m73 h xs h e3"
   walk_at "m m12 h h hs"
   exact k2 (b q) n xs e e3 hs (Qz h).symm
  ·exact k3 (b q) xs e (Qz h).symm
 refine zBo h (fun h q=> ?_) fun h uu=> ?_
 ·refine m195 h fun xs h e=> ?_
  walk_at "m m12 h h hs"
  exact k4 (b q) xs e hs h
 refine zBo h (fun h q=> ?_) fun h uu=> ?_
 ·exact m194 h fun i j h e=>k5 (b q) i j e h
 refine zBo h (fun h q=> ?_) fun h uu=> ?_
 ·exact m63 h fun h e=>k6 (b q) e h
 walk_at "m m12 h h q"
 exact k7 (b q)
theorem blt_ok (Wh:Whole G) (GA:GetAttrOk G) (H:EOk2 G ok Ee) (FN:FnsOk G Ee):BltOk G Ee:=by
 intro g f pf p args hw hg C W l s s1 S vs v s' Q X F R I h1 h k
 walk_at "e G Ee ok|Wh GA H FN|g f pf p args|hw hg|C W l s s1 S vs v s' Q X|F R I h1 h k"
 refine blt_inv hg h (fun q a qa e=> ?_) (fun q n xs qa e hs qr=> ?_) (fun q xs qa qr=> ?_) (fun q xs qa hs e=> ?_) (fun q i j qa e=> ?_) (fun q qa e=> ?_) fun q=> ?_
 ·subst q qa
  refine callG_blt Wh.names H.toEOk (id:= "len") (Qx (i:=0) rfl) hw F R I h1 fun W1 S1 us le1 I1 r1=> ?_
  refine vsC r1 fun uu uu ra rb=> ?_
  refine vsN rb ?_
  have fin:∀ xs:List AV,(v,s')=(AV.int (.ofNat (lenN xs)),s1)→∀ t tk,Q (.int xs.length t) { S1 with toks:=tk }:=fun xs qr t tk=>by
   cases qr
   refine k _ _ _ le1 I1.toks ?_
   rw [Zd];exact .int _ _
  refine lenV_inv e (fun xs qa hs qr=> ?_) (fun n xs qa e hs qr=> ?_) (fun n xs qa e qr=> ?_) fun n c d C f' m s2 qa eo hc hf h2 hk qr=> ?_
  ·exact len_plain I1 ra (.inl ⟨xs,qa,hs,rfl⟩) (fin xs qr)
  ·exact len_plain I1 ra (.inr (.inl ⟨n,xs,qa,e,hs,rfl⟩)) (fin xs qr)
  ·exact len_plain I1 ra (.inr (.inr ⟨n,xs,qa,e,rfl⟩)) (fin xs qr)
  ·subst qa;cases qr
   exact len_inst (es:=[]) Wh FN F.hand R I1 ra eo hc hf h2 (Qh hk) fun W2 S2 vc le2 I2 r2=>k _ _ _ (le1.trans le2) I2 r2
 ·subst q qa;cases qr
  refine Vv Wh.names H.toEOk (T:= "tuple") (Qx (i:=1) rfl) hw F R I h1 fun W1 S1 us le1 I1 r1=> ?_
  refine vsC r1 fun uu uu ra rb=> ?_
  refine vsN rb ?_
  exact tuple_of_list I1 ra e hs fun W2 S2 vc le2 I2 r2=>k _ _ _ (le1.trans le2) I2 r2
 ·subst q qa;cases qr
  refine Vv Wh.names H.toEOk (T:= "tuple") (Qx (i:=1) rfl) hw F R I h1 fun W1 S1 us le1 I1 r1=> ?_
  refine vsC r1 fun uu uu ra rb=> ?_
  refine vsN rb ?_
  exact tuple_of_tuple I1 ra fun W2 S2 vc le2 I2 r2=>k _ _ _ (le1.trans le2) I2 r2
 ·subst q qa
  refine Vv Wh.names H.toEOk (T:= "list") (Qx (i:=2) rfl) hw F R I h1 fun W1 S1 us le1 I1 r1=> ?_
  refine vsC r1 fun uu uu ra rb=> ?_
  refine vsN rb ?_
  exact list_of_tuple I1 ra hs e fun W2 S2 vc le2 I2 r2=>k _ _ _ (le1.trans le2) I2 r2
 ·subst q qa
  refine callG_blt Wh.names H.toEOk (id:= "min") (Qx (i:=7) rfl) hw F R I h1 fun W1 S1 us le1 I1 r1=> ?_
  refine vsC r1 fun uu uu ra rb=> ?_
  refine vsC rb fun uu uu rc rd=> ?_
  refine vsN rd ?_
  have q:s1=s':=zBo e (fun e uu=>(Prod.mk.inj (Qz e)).2) fun e uu=>(Prod.mk.inj (Qz e)).2
  subst q
  exact min_sound F.hand.1 I1 ra rc e fun W2 S2 vc le2 I2 r2=>k _ _ _ (le1.trans le2) I2 r2
 ·subst q qa
  refine Vv Wh.names H.toEOk (T:= "set") (Qx (i:=5) rfl) hw F R I h1 fun W1 S1 us le1 I1 r1=> ?_
  refine vsN r1 ?_
  exact set_new I1 e fun W2 S2 vc le2 I2 r2=>k _ _ _ (le1.trans le2) I2 r2
 ·subst q
  refine callG_blt Wh.names H.toEOk (id:= "getattr") (Qx (i:=6) rfl) hw F R I h1 fun W1 S1 us le1 I1 r1=> ?_
  exact GA F.hand.1 R I1 r1 hg h fun W2 S2 vc le2 I2 r2=>k _ _ _ (le1.trans le2) I2 r2
end
structure ClsG (G:Gl):Prop where
 cls:∀ c Cl CA,G.P.cls c=some Cl→G.gad c=some (.ref CA)→subIn G.K (.ref CA) (.type "module")=some false∧findIn G.K (.ref CA) "__getattr__" =some none∧(∃ cd,clsIn G.K CA=some cd∧cd.name.cps.foldl (fun k c=>k+(Str.utf8Of c).length) 0≤100∧cd.name.toString.length≤50)
 sup:G.nm theN.lr0_added=Str.ofString "lr0_added"
 ok:G.okA theN.lr0_added=true
theorem args_getattr_3 (a b c:Value):argsOk "getattr" ⟨[a,b,c],[]⟩:=by unfold argsOk;kernel_rfl
theorem sizeLine_big:300≤sizeLine:=by size_fits
section
variable {G:Gl} {Ee:Ev} {ok:WF→Prop}
theorem getattr3_open {A:Around} {S:Shared} {X:Value→Shared→Prop} {ad CA:Addr} {ox od:Obj} {tk:Tok} {d:Value} {Q:Value→Shared→Prop} (K:G.K.In S.heap) (It:PySem.W.InstAt S.heap ad ox CA (some od)) (hm:subIn G.K (.ref CA) (.type "module")=some false)
  (h:wpAny (model G.prog G.w) A.in1 (getAttrBy? (.ref ad) (.str (Str.ofString "lr0_added") tk)) (fun r s'=>match r with | some v=>Q v s' | none=>Q d s') X S):
  wpAny (model G.prog G.w) A (call (.builtin "getattr") [.ref ad,.str (Str.ofString "lr0_added") tk,d]) Q X S:=by
 refine Calls.call_function_entry KB.kind_getattr KB.plain_getattr KB.entry_getattr (args_getattr_3 _ _ _) ?_
 unfold Builtin.«getattr»
 refine Qq (wpAny_of_eq (a:=[.ref ad,.str (Str.ofString "lr0_added") tk,d]) (by first | rfl | kernel_rfl) ?_)
 dsimp only
 refine Qq (wpAny_of_eq (a:=()) (by first | rfl | kernel_rfl) ?_)
 refine Qq (wpAny_of_eq (a:=none) (by first | rfl | kernel_rfl) ?_)
 dsimp only
 have L0:=It.type (M:=model G.prog G.w)
 have L1:=looks_subIn (M:=model G.prog G.w) K hm
 refine Qq ?_
 k_delta "optionalOnAModule"
 refine Qq (wpAny_of_eq (a:=some (Str.ofString "lr0_added")) (by first | rfl | kernel_rfl) ?_)
 dsimp only
 refine Qq ((L0.andThen L1).here ?_)
 rw [Bool.not_false,if_pos rfl]
 refine Qw ?_
 rw [if_neg (show ¬((0:Nat)==1)=true from Wv),if_neg (show ¬((0:Nat)==2)=true from Wv)]
 refine Qq (wpAny_mono h (fun r s' z=> ?_) fun uu uu e=>e)
 cases r with
 | some v=>exact Qw ⟨_,rfl,z⟩
 | none=>exact Qw ⟨_,rfl,z⟩
theorem gab_value {A:Around} {S:Shared} {X:Value→Shared→Prop} {ad CA:Addr} {ox od:Obj} {tk:Tok} {v:Value} {name:Str} {Q:Option Value→Shared→Prop} (K:G.K.In S.heap) (It:PySem.W.InstAt S.heap ad ox CA (some od))
  (hga:findIn G.K (.ref CA) "__getattribute__" =some (some (.builtin "object.__getattribute__"))) (hf:findObj G.K CA (some od) name=some (.value v)) (hh:handedIn v=true) (h:Q (some v) S):
  wpAny (model G.prog G.w) A (getAttrBy? (.ref ad) (.str name tk)) Q X S:=by
 walk_at "e G A S X ad CA ox od tk v name Q|K It hga hf hh h"
 obtain ⟨hh',g,d,t,os⟩:=S
 have L0:=It.type (M:=model G.prog G.w)
 have L1:=looks_findIn (M:=model G.prog G.w) K hga
 have L2:=looks_find (M:=model G.prog G.w) K It hf
 unfold getAttrBy? getAttrBy
 refine Qq (wpAny_attempt (Qg (Qq (L0.at (Qq (L1.at ?_))))))
 refine Qq (wpAny_onRaise (wpAny_runValue (codeAny_builtin F.plainObj_entry_getattr_hooked ?_)))
 refine Qq (Qw (Qq (L0.at (Qq (L2.at ?_)))))
 refine Qw ?_
 show wpAny _ _ (handedOut v) _ _ _
 rw [handedOut_of hh];exact Qw (Qw h)
theorem gab_missing {A:Around} {S:Shared} {X:Value→Shared→Prop} {ad CA:Addr} {ox od:Obj} {tk:Tok} {name:Str} {cd:ClassData} {Q:Option Value→Shared→Prop} (hA:A.handled=none) (K:G.K.In S.heap) (It:PySem.W.InstAt S.heap ad ox CA (some od))
  (hga:findIn G.K (.ref CA) "__getattribute__" =some (some (.builtin "object.__getattribute__"))) (hk:findIn G.K (.ref CA) "__getattr__" =some none) (hf:findObj G.K CA (some od) name=some .missing)
  (hcd:clsIn G.K CA=some cd) (hs:cd.name.cps.foldl (fun k c=>k+(Str.utf8Of c).length) 0≤100) (hsz:cd.name.toString.length≤50) (hn:name.length≤100)
  (h:∀ h' tk,(∀ b o,S.heap.get? b=some o→h'.get? b=some o)→Q none { S with heap:=h',toks:=tk }):
  wpAny (model G.prog G.w) A (getAttrBy? (.ref ad) (.str name tk)) Q X S:=by
 walk_at "e G A S X ad CA ox od tk name cd Q|hA K It hga hk hf hcd hs hsz hn h"
 obtain ⟨hh',g,d,t,os⟩:=S
 have L0:=It.type (M:=model G.prog G.w)
 have L1:=looks_findIn (M:=model G.prog G.w) K hga
 have L2:=looks_find (M:=model G.prog G.w) K It hf
 have L3:=looks_findIn (M:=model G.prog G.w) K hk
 have L4:=looks_clsIn (M:=model G.prog G.w) K hcd
 unfold getAttrBy? getAttrBy
 refine Qq (wpAny_attempt (Qg (Qq (L0.at (Qq (L1.at ?_))))))
 refine Qq (wpAny_onRaise (wpAny_runValue (codeAny_builtin F.plainObj_entry_getattr_hooked ?_)))
 refine Qq (Qw (Qq (L0.at (Qq (L2.at (Qq (L3.at ?_)))))))
 show wpAny _ _ (Builtin.ObjectAttr.noSuchAttribute _ _) _ _ _
 unfold Builtin.ObjectAttr.noSuchAttribute typeNameOfCut shownTypeOf
 refine Qq (Qq (Qq (L0.at ?_)))
 have e0:(Value.ref CA==Value.type "builtin_function_or_method")=false:=Bool.eq_false_iff.mpr fun q=>by cases beq_iff_eq.mp q
 rw [e0,if_neg Wv]
 refine Qw ?_
 unfold typeNameCut
 refine Qq (L4.at ?_)
 rw [if_pos hs]
 refine Qw ?_
 refine wpAny_raiseAttrError hA (fun h'' tk'' e hN=> ?_) ?_
 ·skip
  refine Qw ?_
  refine oEE (hN.there) fun t' u' he=> ?_
  have T:(⟨h'',g,d,tk'',os⟩:Shared).TypeIs (.ref e) "AttributeError" :=⟨_,he,rfl⟩
  unfold isInstance
  refine Qq (Qq (wpAny_typeOf T (wpAny_of_eq sub_AttributeError (Qw ?_))))
  exact h _ _ hN.keeps
 ·refine attrMsg_fits ?_ (Nat.le_trans (by lia) sizeLine_big)
  simp only [String.length_append]
  have e1: "'".length=1:=by decide
  have e2: "' object has no attribute '".length=27:=by decide
  show "'".length+cd.name.toString.length+ "' object has no attribute '".length≤90
  rw [e1,e2];lia
theorem getA_plain_none {Cl:Cls} {CA:Addr} (K:ClsOk G Cl CA) {k:Nat} (hk:G.okA k=true) (hp:findA k Cl.plain=none):findIn G.K (.ref CA) (G.nm k)=some none:=by
 have:=(K.attr k hk).2.2
 rw [hp] at this;exact this
theorem ob {α β:Type} {x:Option α} {a:α} {F:α→Option β} {r:Option β} (h:x=some a) (k:F a=r):x.bind F=r:=by rw [h];exact k
theorem zAv {β:Type} {r:β} {P:Prop} {x:Option AV} {A:AV→Option β} {B:Option β} (h:(match x with | some v=>A v | none=>B)=some r) (k1:∀ v,A v=some r→x=some v→P) (k2:B=some r→x=none→P):P:=by
 cases x with
 | none=>exact k2 h rfl
 | some v=>exact k1 v h rfl
theorem getattr_ok (Wh:Whole G) (CG:ClsG G):GetAttrOk G:=by
 intro C W l s S vs us v s' Q X Ee hh R I hv hg h k
 walk_at "e G|Wh CG|C W l s S vs us v s' Q X Ee|hh R I hv hg h k"
 have hlr:beqS [] []=true:=rfl
 replace h:=mGl h hg
 walk_at "M m192 h n t d h"
 walk_at "m m12 h h ht"
 walk_at "m m26 h c dd h e1"
 walk_at "m m22 h es h e2"
 walk_at "m m9 h Cl h hc"
 walk_at "m m193 h h hp"
 refine vsC hv fun uu uu ra rb=> ?_
 refine vsC rb fun uu uu rb rc=> ?_
 refine vsC rc fun uu uu rc rd=> ?_
 refine vsN rd ?_
 refine vRef ra fun a ha=> ?_
 refine vStr rb fun tk=> ?_
 have et:mkS t=Str.ofString "lr0_added" :=by
  rw [Vb] at ht
  have:=Qd ht
  subst this
  decide+kernel
 rw [et]
 refine oEEEEAAAAAA (I.inst e1 e2 ha) fun CA ad ds m h1 h2 h3 h4 h5 h6 h7=> ?_
 refine oEAA (Wh.cls.cls c Cl hc) fun CA' g1 K KM=> ?_
 rw [h1] at g1;cases g1
 obtain ⟨c1,c2,cd,c3,c4,c5⟩:=CG.cls c Cl CA hc h1
 have X0:G.K.In S.heap:=Wh.o.kin.keeps I.base
 have It:PySem.W.InstAt S.heap a (instObj CA ad) CA (some (dictOf ds m)):=⟨h3,rfl,rfl,h4⟩
 refine getattr3_open X0 It c1 ?_
 have hf:=h5.find theN.lr0_added
 have hno:=getA_plain_none K CG.ok hp
 rw [CG.sup] at hno hf
 refine zAv h (fun w h hw=> ?_) fun h hw=> ?_
 ·rw [hw] at hf
  refine oEA hf fun cv f1 f2=> ?_
  walk_at "m m12 h h hd"
  ((refine oA (i2 h) fun q0z q1z=> ?_;subst q0z q1z))
  exact gab_value X0 It (plainGet_of (K.get "x")).1 (findObj_own K.dict hno rfl f1) (handed_ok hd f2) (k _ _ _ (.refl _) I f2)
 ·rw [hw] at hf
  ((refine oA (i2 h) fun q0z q1z=> ?_;subst q0z q1z))
  refine gab_missing hh X0 It (plainGet_of (K.get "x")).1 c2 ?_ c3 c4 c5 (by decide) fun h' tk hk=> ?_
  ·refine oEA (any_some K.dict) fun cd' hcd' hd'=> ?_
   have ho:PySem.W.ownOf cd' (some (dictOf ds m)) (Str.ofString "lr0_added")=some none:=by unfold PySem.W.ownOf;rw [if_pos hd'];show lookIn _ (dictOf ds m)=_;rw [lookIn_dict];exact hf
   have hcn:=(K.attr _ CG.ok).2.1
   rw [CG.sup] at hcn
   exact ob hcd' (ob hno (ob rfl (ob rfl (ob ho (if_neg (by rw [hcn,Bool.false_and];exact Wv))))))
  ·exact k _ _ _ (.refl _) (I.grow hk) (rc)
end
namespace FK
theorem typeCall_dict_0:checkTypeCall "dict" ⟨[],[]⟩=pure ():=by kernel_rfl
theorem newCall_dict_0:checkBuiltinCall "dict.__new__" ⟨[.type "dict"],[]⟩=pure ():=by kernel_rfl
noncomputable def bound:Obj:={ cls:= .type "builtin_function_or_method",data:= .fields #[.builtin "dict.fromkeys",.type "dict"] }
theorem type_fk:typeOf (.builtin "dict.fromkeys")=pure (.type "classmethod_descriptor"):=by refine (?_:builtinType _=_);rw [builtinType_eq_fast];kernel_rfl
theorem entry_fk:entryFor table "dict.fromkeys" =some Builtin.«dict.fromkeys» :=entryFor_of_tree (by kernel_rfl)
theorem quiet_fk {as:Args}:(Code.builtin "dict.fromkeys" as).quiet=true:=Code.quiet_builtin _ (by decide+kernel)
theorem type_dict:isType (.type "dict")=pure true:=rfl
theorem check_fk {a b:Value}:checkBoundCall "dict.fromkeys" ⟨[.type "dict",a,b],[]⟩=pure ():=by first | kernel_rfl | rfl
theorem find_fk {K:Frag}:findCls K (.type "dict") (.type "type") (Str.ofString "fromkeys")=some (.get (.builtin "classmethod_descriptor.__get__") (.builtin "dict.fromkeys") .none (.type "dict")):=by kernel_rfl
section
variable {prog:Program} {w:World} {A:Around} {E:Value→Shared→Prop} {s:Shared}
theorem code_dict_new {Q₁:Value→Shared→Prop} (h:Q₁ (.ref s.heap.objs.size) { s with heap:=s.heap.push { cls:= .type "dict",data:= .dict #[] } }):
  codeAny (model prog w) A (.call (.builtin "dict.__new__") ⟨[.type "dict"],[]⟩) (wants Q₁ E) s:=by
 refine codeAny_call_builtin PySem.F.kt_plain_dict_new PySem.F.kt_entry_dict_new (wpAny_of_eq newCall_dict_0 ?_)
 have hsub:=PySem.F.kt_sub_dict
 have hmro:=PySem.F.kt_mro_dict
 obtain ⟨hp,g,d,tk,os⟩:=s
 wp_walk
 exact h
theorem dict_new {Q:Value→Shared→Prop} (h:Q (.ref s.heap.objs.size) { s with heap:=s.heap.push { cls:= .type "dict",data:= .dict #[] } }):wpAny (model prog w) A (call (.type "dict") []) Q E s:=by
 refine callType_codes (Q₁:=fun obj s₁=>obj= .ref s.heap.objs.size∧s₁={ s with heap:=s.heap.push { cls:= .type "dict",data:= .dict #[] } }) PySem.F.kt_called_dict typeCall_dict_0 PySem.F.entry_dict_init (code_dict_new ⟨rfl,rfl⟩) ?_
 rintro obj s₁ ⟨rfl,rfl⟩
 have hT:(⟨s.heap.push { cls:= .type "dict",data:= .dict #[] },s.gens,s.drawn,s.toks,s.os⟩:Shared).TypeIs (.ref s.heap.objs.size) "dict" :=⟨_,Heap.get?_push_size _ rfl,rfl⟩
 refine ⟨hT,PySem.F.args_dict_init_1 _,?_⟩
 refine Qq ?_
 refine Qq (wpAny_notOrdered_dict hT ?_)
 refine Qw ?_
 repeat (any_goals (first | exact ⟨rfl,h⟩ | wp_step))
theorem run_get {M:Model} {P:Fin→Shared→Prop} (h:P (.done (.ret (.ref s.heap.objs.size))) { s with heap:=s.heap.push bound }):
  wpAny M A (Builtin.«classmethod_descriptor.__get__» ⟨[.builtin "dict.fromkeys",.none,.type "dict"],[]⟩) P E s:=by
 refine Qq (wpAny_of_eq (a:=(.builtin "dict.fromkeys",none,some (.type "dict"))) (by first | rfl | kernel_rfl) ?_)
 refine Qq (wpAny_of_eq (a:= .type "dict") rfl ?_)
 refine Qq (wpAny_of_eq (a:=true) type_dict ?_)
 refine KFB.if_not rfl ?_
 refine Qq (wpAny_of_eq (a:=true) PySem.F.kt_sub_dict ?_)
 refine KFB.if_not rfl ?_
 exact Qq (wpAny_newObj_type (Qw h))
theorem getm {K:Frag} {pl:Sem Bool} {Q:Value × List Value→Shared→Prop} (X:K.In s.heap) (h:Q (.ref s.heap.objs.size,[]) { s with heap:=s.heap.push bound,toks:=s.toks+1 }):
  wpAny (model prog w) A (getMethod (.type "dict") (Str.ofString "fromkeys") pl) Q E s:=by
 have hstub:opaqueClassAbove (.type "dict")=pure none:=by unfold opaqueClassAbove;dsimp only;rw [show Manifest.isStub "dict" =false by decide+kernel];rfl
 have ht:typeOf (.type "dict")=pure (.type "type"):=by first | rfl | kernel_rfl
 have L0:Looks (model prog w) s.heap (typeOf (.type "dict")) (.type "type"):=Looks.of_pure ht
 have hg:findIn K (.type "type") "__getattribute__" =some (some (.builtin "type.__getattribute__")):=type_tga
 refine Qq (Qq (L0.here ((looks_findIn X hg).here ?_)))
 dsimp only
 rw [if_pos canon_tga]
 refine Qq (wpAny_mono (Q:=fun v=>Q (v,[])) (E:=E) ?_ (fun uu uu z=>Qw z) fun uu uu z=>z)
 have LO:Looks (model prog w) s.heap (opaqueClassAbove (.type "dict")) none:=Looks.of_pure hstub
 refine cls_open X LO L0 hg (looks_hook X (r:=none) (by rfl)) (by refine (?_:subIn K _ _=_);rfl) find_fk ?_
 refine Qq (Qg (Qf KFB.slot_get type_fk KFB.entry_get (run_get ⟨_,rfl,Qw (Qw h)⟩) (KFB.args_get _ _ _)))
noncomputable def StandsAt (x:Addr) (h:Heap):Prop:=h.get? x=some bound
theorem callWith_fields {M:Model} {pos:Pos} {u:Addr} {first:List Value} {args:List (Bool × Sem Value)} {Q:Value→Shared→Prop} (hplain:args.any (·.1)=false)
  (h:wpAny M A (evalArgs (.ref u) true args []) (fun x s₁=>StandsAt u s₁.heap∧wpAny M A (call (.ref u) (first++x.pos) x.kw) Q E s₁) E s):wpAny M A (callWith pos (.ref u) first args []) Q E s:=by
 refine Qq (Qg (wpAny_mono h (fun x s₁ h₁=>Qq (wpAny_standAt ?_)) fun uu uu x=>x))
 refine oA h₁ fun ho hcall=> ?_
 simp only [hplain,List.any_nil,Bool.or_false]
 refine Qq (m:=keeperOf (.ref u)) ?_
 unfold keeperOf
 refine Qq (wpAny_load ho ?_)
 simp only [bound,show (Value.type "builtin_function_or_method" !=Value.type "method")=true by decide,show (Value.type "builtin_function_or_method" ==Value.type "builtin_function_or_method" || Value.type "builtin_function_or_method" ==Value.type "method-wrapper")=true by decide,if_true]
 refine Qw ?_
 exact Qq (wpAny_mono hcall (fun r s₂ hr=>Qq (Qg (wpAny_point (Qw hr)))) fun uu uu x=>x)
theorem call_of {x:Addr} {a b:Value} {Q:Value→Shared→Prop} (ho:StandsAt x s.heap)
  (tree:wpAny (model prog w) (A.under (.builtin "dict.fromkeys" ⟨[.type "dict",a,b],[]⟩)) (Builtin.«dict.fromkeys» ⟨[.type "dict",a,b],[]⟩) (fun fin s'=>match fin with | .done (.ret v)=>Q v s' | _=>False) E s):
  wpAny (model prog w) A (call (.ref x) [a,b]) Q E s:=by
 refine wpAny_call (codeAny_of_tree ?_)
 refine Qq (wpAny_load ho ?_)
 refine KFB.if_so (by decide) ?_
 refine Qq (wpAny_of_eq (a:=()) check_fk ?_)
 refine Qq (Qw (Qw ?_))
 refine ⟨quiet_fk,codeAny_builtin entry_fk ?_⟩
 refine wpAny_mono (by exact tree) (fun fin s' z=> ?_) fun uu uu z=>z
 rcases fin with (_ | _ | _ | _) | _ <;> first | exact z | exact z.elim
end
end FK
section
variable {G:Gl} {C:Cx} {W:Wd} {l:Tr AV} {s:St} {S:Shared} {A:Around} {E:Value→Shared→Prop}
theorem constKeys_eq:∀ (es:List (AV × AV)) (v:AV),constKeys es v=some (es.map fun e=>(e.1,v))
 | [],v=>rfl
 | e::r,v=>by refine (?_:(match constKeys r v with | some l=>some ((e.1,v)::l) | none=>none)=_);rw [constKeys_eq r v];rfl
theorem dictSetHashed_new (P:Pins W S.heap) {a:Addr} {es:List (AV × AV)} {ep:Nat} {ds:List DictEntry} {k:AV} {kv v:Value} {Q:Unit→Shared→Prop} (hu:A.units+6≤cLine)
  (D:DictAtI G W S a es ep ds) (hkk:isKey k=true) (hno:∀ (j:Nat) (x:AV),es[j]? ≠some (k,x)) (hz:es.length≤4000) (hkv:VRel G W k kv)
  (h:∀ h',Heap.SameBut a S.heap h'→h'.get? a=some (dictOf (ds++ [⟨hashK G.w k,kv,v⟩]) (ep+1))→Q () { S with heap:=h' }):
  wpAny (model G.prog G.w) A (dictSetHashed a kv (hashK G.w k) v) Q E S:=by
 have hl:=D.ents.length
 have hz':ds.toArray.size≤sizeLine:=by rw [sizeLine_eq];simp;lia
 unfold dictSetHashed
 try with_reducible refine Qg ?_
 refine Qq (dictFind_D (tk:=S.toks) P hu D hkk hkv (fun uu=> ?_) fun j y hj=>absurd hj (hno j y))
 refine Qq (wpAny_rule (wpAny_updateDictKeys (hz:=hz') (es:=ds.toArray) (ep:=ep) D.get rfl (h _ (Wu ..) ?_)))
 rw [Wg _ D.get (by rw [Xy];rfl),Xy]
 simp
theorem fromkeys_tree (O:GOk G) {n:Nat} {es:List (AV × AV)} {ep:Nat} {x:AV} {vc xc:Value} {v:AV} {s':St} {Q:Value→Shared→Prop} (hu:A.units+12≤cLine) (I:Inv G C W l s S) (e:s.h.get n=some (.dict es ep)) (hs:small es=true) (hv:VRel G W (.ref n) vc) (hx:VRel G W x xc)
  (h:s.new (.dict (es.map fun e=>(e.1,x)) es.length)=some (v,s')) (k:Cont G C W l s' v Q):
  wpAny (model G.prog G.w) A (Builtin.«dict.fromkeys» ⟨[.type "dict",vc,xc],[]⟩) (fun fin s'=>match fin with | .done (.ret v)=>Q v s' | _=>False) E S:=by
 walk_at "e G C W l s S A E|O|n es ep x vc xc v s' Q|hu I e hs hv hx h k"
 refine vRef hv fun a ha=> ?_
 refine oE (I.dict e ha) fun ds D=> ?_
 have sys:=I.notSys O ha
 have hs:=Zf hs
 have hlen:=D.ents.length
 have hlt:a < S.heap.objs.size:=Heap.lt_size D.get
 have hne:S.heap.objs.size≠a:=Nat.ne_of_gt hlt
 refine Qq (wpAny_of_eq (a:=true) FK.type_dict ?_)
 refine KFB.if_not rfl ?_
 refine Qq (wpAny_of_eq (a:=true) PySem.F.kt_sub_dict ?_)
 refine KFB.if_not rfl ?_
 refine KFB.if_not rfl ?_
 refine Qq (Qw (a:=(Value.ref a,xc)) ?_)
 refine Qq (FK.dict_new ?_)
 refine Qg ?_
 obtain ⟨hp,gg,dd,tt,os⟩:=S
 have ho:(hp.push { cls:= .type "dict",data:= .dict #[] }).get? a=some (dictOf ds ep):=Qv _ D.get
 have hd:(hp.push { cls:= .type "dict",data:= .dict #[] }).get? hp.objs.size=some (dictOf [] 0):=Heap.get?_push_size _ rfl
 refine Qq (wpAny_typeOf (T:= "dict") ⟨_,ho,rfl⟩ ?_)
 refine Qq (wpAny_typeOf (T:= "dict") ⟨_,hd,rfl⟩ ?_)
 refine KFB.if_so (by decide) ?_
 refine Qq (wpAny_rule ?_)
 refine Qq (Qw (a:=a) ?_)
 unfold Builtin.Dict.showsAll
 rw [if_neg (by rw [sys];exact Wv)]
 refine Qq (Qw ?_)
 refine Qq (wpAny_dictEpoch ho rfl ?_)
 refine Qq (wpAny_dictEntries ho rfl ?_)
 refine Qq ?_
 rw [Std.Legacy.Range.forIn_eq_forIn_range']
 refine wpAny_forIn_list _
   (fun rest uu s'=>∃ h' i,s'=⟨h',gg,dd,tt,os⟩∧rest=List.range' i (ds.toArray.size - i)∧i≤ds.toArray.size∧
    h'.get? hp.objs.size=some (dictOf ((ds.take i).map fun e=>⟨e.hash,e.key,xc⟩) i)∧Heap.SameBut hp.objs.size (hp.push { cls:= .type "dict",data:= .dict #[] }) h')
   _ ?_ ?_ _ _ ⟨_,0,rfl,by simp,Nat.zero_le _,by simpa using hd,Heap.SameBut.refl _ _⟩
 ·rintro y rest b s' ⟨h',i,rfl,hr,hi,hd',hs'⟩
  have hlt2:i < ds.toArray.size:=by
   rcases Nat.lt_or_ge i ds.toArray.size with h | h
   ·exact h
   ·rw [Nat.sub_eq_zero_of_le h] at hr;simp at hr
  obtain ⟨rfl,hrest⟩:y=i∧rest=List.range' (i+1) (ds.toArray.size - (i+1)):=by
   have e:ds.toArray.size - i=(ds.toArray.size - (i+1))+1:=y0 (by assumption)
   rw [e,List.range'_succ] at hr
   injection hr with h1 h2
   exact ⟨h1,h2⟩
  have hlt3:y < ds.length:=by simpa using hlt2
  have hoo':h'.get? a=some (dictOf ds ep):=(hs'.2 a (Ne.symm hne)).trans ho
  refine Qq (wpAny_dictEntries hoo' rfl ?_)
  rw [Array.getElem?_eq_getElem hlt2]
  refine Yg (D.ents.at (j:=y) (d:=ds[y]) (Qu hlt3)) fun k1 x1 e1 e2 e3 e4=> ?_
  show wpAny _ _ (holding [(ds.toArray[y]).key] (dictSetHashed hp.objs.size (ds.toArray[y]).key (ds.toArray[y]).hash xc) >>=_) _ _ _
  have e5:ds.toArray[y]=ds[y]:=by simp
  rw [e5,e2]
  have hEnt:∀ i,Ents G W ((es.take i).map fun e=>(e.1,x)) ((ds.take i).map fun e=>⟨e.hash,e.key,xc⟩):=by
   have:∀ {es:List (AV × AV)} {ds:List DictEntry},Ents G W es ds→∀ i,Ents G W ((es.take i).map fun e=>(e.1,x)) ((ds.take i).map fun e=>⟨e.hash,e.key,xc⟩):=by
    intro es ds h
    induction h with
    | nil=>intro i;simpa using Ents.nil
    | cons hk hv r ih=>
     intro i
     cases i with
     | zero=>simpa using Ents.nil
     | succ i=>simpa using Ents.cons hk hx (ih i)
   exact this D.ents
  have hP:Pins W h':=fun p hp'=>by
   have q:=I.pin p hp'
   have:p.1≠hp.objs.size:=fun z=>by have:=Heap.lt_size q.1;rw [z] at this;exact Nat.lt_irrefl _ this
   exact (hs'.2 _ this).trans (Qv _ q.1)
  have hD:DictAtI G W ⟨h',gg,dd,tt,os⟩ hp.objs.size ((es.take y).map fun e=>(e.1,x)) y ((ds.take y).map fun e=>⟨e.hash,e.key,xc⟩):=by
   refine ⟨hd',hEnt y,fun e he=> ?_,?_⟩
   ·(refine oEA (List.mem_map.mp he) fun e' he' q2z=> ?_;subst q2z)
    exact D.keys e' (List.mem_of_mem_take he')
   ·rw [List.map_map]
    exact (D.nodup.sublist ((List.take_sublist y es).map _))
  refine Qq (Qg (dictSetHashed_new hP (by simpa using (show A.units+6≤cLine by lia)) hD (k:=k1) (D.keys _ (Qx e1)) (fun j z hj=> ?_) (by simp;lia) e3 fun h'' hs'' hg''=> ?_))
  ·rw [List.getElem?_map] at hj
   refine oEA (Option.map_eq_some_iff.mp hj) fun q hq hqe=> ?_
   rw [List.getElem?_take] at hq
   walk_at "m mite hq hq hj2"
   have a1:(es.map (·.1))[j]? =some k1:=by rw [List.getElem?_map,hq];simpa using (Prod.mk.inj hqe).1
   have a2:(es.map (·.1))[y]? =some k1:=by rw [List.getElem?_map,e1];rfl
   have:=(List.getElem?_inj (Wn a1).1 D.nodup).mp (a1.trans a2.symm)
   lia
  ·have hoo'':h''.get? a=some (dictOf ds ep):=(hs''.2 a (Ne.symm hne)).trans hoo'
   refine Qq (wpAny_dictEpoch hoo'' rfl ?_)
   rw [if_neg (by simp)]
   refine Qw ⟨h'',y+1,rfl,hrest,hlt2,?_,hs'.trans hs''⟩
   rw [hg'']
   have e6:((ds.take (y+1)).map fun e=>({ hash:=e.hash,key:=e.key,val:=xc }:DictEntry))=((ds.take y).map fun e=>({ hash:=e.hash,key:=e.key,val:=xc }:DictEntry))++ [⟨hashK G.w k1,ds[y].key,xc⟩]:=by
    rw [List.take_add_one,Qu hlt3,List.map_append,←e2];rfl
   rw [e6]
 ·rintro b s' ⟨h',i,rfl,hr,hi,hd',hs'⟩
  have hin:i=ds.length:=by
   rcases Nat.lt_or_ge i ds.toArray.size with h | h
   ·have e:ds.toArray.size - i=(ds.toArray.size - (i+1))+1:=y0 (by assumption)
    rw [e,List.range'_succ] at hr;exact nomatch hr
   ·have:=Nat.le_antisymm hi h;simpa using this
  subst hin
  rw [List.take_length] at hd'
  have hEnt:Ents G W (es.map fun e=>(e.1,x)) (ds.map fun e=>⟨e.hash,e.key,xc⟩):=by
   have:∀ {es:List (AV × AV)} {ds:List DictEntry},Ents G W es ds→Ents G W (es.map fun e=>(e.1,x)) (ds.map fun e=>⟨e.hash,e.key,xc⟩):=by
    intro es ds h
    induction h with
    | nil=>exact .nil
    | cons hk hv r ih=>exact .cons hk hx ih
   exact this D.ents
  obtain ⟨_,J,r⟩:=I.new (tk:=tt) (a:=hp.objs.size) (h':=h') (co:=dictOf (ds.map fun e=>⟨e.hash,e.key,xc⟩) ds.length) h (Xw _) (fun b o e=>(hs'.2 b (fun z=>by have:=Heap.lt_size e;rw [z] at this;exact Nat.lt_irrefl _ this)).trans (Qv _ e)) hd'
   ⟨_,by rw [hlen],hEnt.mono (W.le_obj _),fun e he=>by (refine oEA (List.mem_map.mp he) fun e' he' q2z=> ?_;subst q2z);exact D.keys e' he',by rw [List.map_map];exact D.nodup⟩
  exact Qw (k _ _ _ (W.le_obj _) J r)
end
structure RNames (G:Gl):Prop where
 fk:G.nm theN.fromkeys=Str.ofString "fromkeys"
 vals:G.nm theN.values=Str.ofString "values"
section
variable {G:Gl} {Ee:Ev} {g:Nat→Bool} {ok:WF→Prop}
theorem fk_units (a b:Value):(Code.builtin "dict.fromkeys" ⟨[.type "dict",a,b],[]⟩).cUnits=1:=by kernel_rfl
theorem keys_ok (Wh:Whole G) (RN:RNames G) (H:EOk G Ee) {x:Nat} {q:Pos} {m:Nat} {args:List CE} {pa p:Pos} (hw:wfE g (.meth (.gl x q) m args pa p)=true):EvAt G (stepE G.P theN Ee) g (.meth (.gl x q) m args pa p):=by
 intro C W l s S v s' Q X F R I h k
 walk_at "e G Ee g|Wh RN H|x q m args pa p|hw|C W l s S v s' Q X|F R I h k"
 have hw:=bt4 hw;have hw:=And.intro (And.intro hw.1.1 (Qd hw.1.2)) hw.2
 obtain ⟨⟨⟨⟨hw1,hw2⟩,hw3⟩,hw4⟩,hw5⟩:=hw
 walk_at "m m12 h h hx"
 have hx:=Qy hx
 subst hx
 walk_at "m m12 h h hm"
 have hm:=Qy hm
 subst hm
 walk_at "M m168 h a b h"
 walk_at "m m37 h n s1 h h1"
 walk_at "m m2 h vb s2 h h2"
 walk_at "m m19 h es ep h e"
 walk_at "m m12 h h hs"
 rw [constKeys_eq] at h
 simp only at h
 rw [Zk] at h
 show wpAny _ _ (eval (.Call (.Attribute (.Name (G.nm theN.dict) q) (G.nm theN.fromkeys) pa) (embEs (C.em G) [a,b]) [] p) C.env) _ _ _
 rw [arm_eval_Call]
 show wpAny _ _ (attributeBase (embE (C.em G) (.gl theN.dict q)) _ _ (eval (.Name (G.nm theN.dict) q) C.env) >>=_) _ _ _
 rw [base_emb _ _ _ _ _ rfl]
 refine Qq (I.bload F Wh.names hw1 (v:= .type "dict") (Qx (i:=8) rfl) ?_)
 refine Qq (wpAny_standAt ?_)
 refine meth_head (o:= .gl theN.dict q) hw3 hw4 fun pl=> ?_
 rw [RN.fk]
 refine FK.getm (Wh.o.kin.keeps I.base) ?_
 have hnew:=Xw S.heap
 have I1:Inv G C ⟨W.σ,(S.heap.objs.size,FK.bound)::W.pin⟩ l.vs s { S with heap:=S.heap.push FK.bound,toks:=S.toks+1 }:=I.newPin hnew (Xk _ _) (Xd _ rfl)
 have ev2:evs (fun e s=>Ee.ev e l s) [a,b] s=some ([.ref n,vb],s2):=gB h1 (gD (gB h2 rfl) rfl)
 refine FK.callWith_fields (Vw _ _ _ _) (Xg H hw2 F R I1 ev2 fun W2 S2 us le2 I2 r2=>⟨(I2.pin _ (le2.pin _ (Qk ..))).1,?_⟩)
 refine vsC r2 fun uu uu ra rb=> ?_
 refine vsC rb fun uu uu rb rc=> ?_
 refine vsN rc ?_
 refine FK.call_of (I2.pin _ (le2.pin _ (Qk ..))).1 (fromkeys_tree Wh.o ?_ I2 e hs ra rb (by rw [Zd,List.length_map] at h;exact h) fun W3 S3 vc le3 I3 r3=>k _ _ _ (((W.le_pin _).trans le2).trans le3) I3 r3)
 have:=R.1
 show C.A.units+(Code.builtin "dict.fromkeys" ⟨[.type "dict",_,_],[]⟩).cUnits+12≤cLine
 rw [fk_units];lia
theorem nodup_of_map {α β:Type} {f:α→β} {l:List α} (h:(l.map f).Nodup):l.Nodup:=by
 induction l with
 | nil=>simp
 | cons a l ih=>
  simp only [List.map_cons,List.nodup_cons] at h ⊢
  exact ⟨fun m=>h.1 (List.mem_map_of_mem m),ih h.2⟩
theorem vals_eq:∀ {es:List (AV × AV)} {vs:List AV},vals es=some vs→vs=es.map (·.2)∧∀ e∈es,∃ t,e.1= .str t
 | [],vs,h=>by refine e1 h ?_;simp
 | e::r,vs,h=>by
  walk_at "m m72 h t h ht"
  walk_at "m m13 h r' h hr"
  refine e1 h ?_
  refine oA (vals_eq hr) fun h1 h2=> ?_
  subst h1
  refine ⟨rfl,fun e' he'=> ?_⟩
  rcases Zq he' with rfl | q
  ·exact ⟨t,ht⟩
  ·exact h2 e' q
theorem dictAt_str {W:Wd} {S:Shared} {a:Addr} {es:List (AV × AV)} {ep:Nat} {ds:List DictEntry} (D:DictAtI G W S a es ep ds) (hk:∀ e∈es,∃ t,e.1= .str t):
  ∃ kvs:List (Str × Value),S.heap.DictAt (PySem.strKind G.prog G.w) a kvs ep∧VRels G W (es.map (·.2)) (kvs.map (·.2))∧kvs.map (fun x=>AV.str x.1.cps.toList)=es.map (·.1):=by
 walk_at "e G W S a es ep ds|D hk"
 have key:∀ {es:List (AV × AV)} {ds:List DictEntry},Ents G W es ds→(∀ e∈es,∃ t,e.1=AV.str t)→∃ kvs:List (Str × Value),(∀ e∈ds,∃ k,(PySem.strKind G.prog G.w).is k e.key=true∧e.hash=(PySem.strKind G.prog G.w).hash k)∧
   PySem.Pairs (PySem.strKind G.prog G.w) ds kvs∧kvs.map (fun x=>AV.str x.1.cps.toList)=es.map (·.1)∧VRels G W (es.map (·.2)) (kvs.map (·.2)):=by
  intro es ds h
  induction h with
  | nil=>intro _;exact ⟨[],by simp,.nil,rfl,.nil⟩
  | @cons k x es kv v ds hk hv r ih=>
   intro hs
   refine oEAAA (ih fun e he=>hs e (Qj _ he)) fun kvs h1 h2 h3 h4=> ?_
   refine oE (hs (k,x) (Qk ..)) fun t ht=> ?_
   subst ht
   refine vStr hk fun tk=> ?_
   have e1:(PySem.strKind G.prog G.w).is (mkS t) (.str (mkS t) tk)=true:=by show (mkS t==mkS t)=true;simp
   refine ⟨(mkS t,v)::kvs,fun e he=> ?_,.cons e1 rfl h2,?_,.cons hv h4⟩
   ·rcases Zq he with rfl | q
    ·exact ⟨mkS t,e1,rfl⟩
    ·exact h1 e q
   ·simp [h3,mkS]
 refine oEAAA (key D.ents hk) fun kvs h1 h2 h3 h4=> ?_
 refine ⟨kvs,⟨_,ds.toArray,D.get,⟨rfl,rfl,rfl⟩,rfl,fun e he=>h1 e (by simpa using he),by simpa using h2,?_⟩,h4,h3⟩
 have nd:=D.nodup
 rw [←h3] at nd
 have:kvs.map (fun x=>AV.str x.1.cps.toList)=(kvs.map (·.1)).map fun k=>AV.str k.cps.toList:=by simp
 rw [this] at nd
 exact nodup_of_map nd
theorem vals_ok (Wh:Whole G) (RN:RNames G) (H:EOk G Ee) {f:Nat} {pf:Pos} {o:CE} {m:Nat} {pa pm p:Pos} (hf:Nat.beq f theN.list=true) (hw:wfE g (.calG f pf [.meth o m [] pa pm] p)=true):EvAt G (stepE G.P theN Ee) g (.calG f pf [.meth o m [] pa pm] p):=by
 intro C W l s S v s' Q X F R I h k
 walk_at "e G Ee g|Wh RN H|f pf o m pa pm p|hf hw|C W l s S v s' Q X|F R I h k"
 have hf:=Qy hf
 subst hf
 have hw:=(bt2 hw).1
 have hw0:=hw.1
 have hw:=bt4 (bt1 hw.2).1
 have hw1:=hw.1.1.1.1
 have hw3:=hw.1.1.2
 have hw5:=hw.2
 walk_at "m m12 h h hm"
 have hm:=Qy hm
 subst hm
 walk_at "m m37 h n s1 h h1"
 walk_at "m m19 h es ep h e"
 walk_at "m m12 h h hs"
 walk_at "m m13 h vs h hvs"
 (refine oA (vals_eq hvs) fun q0z hstr=> ?_;subst q0z)
 refine wpAny_Call_NameR (I.bload F Wh.names hw0 (v:= .type "list") (Qx (i:=2) rfl) ?_)
 refine PySem.callWith_type (Vw _ _ _ _) ?_
 rw [Yy]
 refine Calls.evalArgs_plain (Wy ?_)
 show wpAny _ _ (eval (.Call (.Attribute (embE (C.em G) o) (G.nm theN.values) pa) (embEs (C.em G) []) [] pm) C.env) _ _ _
 rw [arm_eval_Call,base_emb _ _ _ _ _ hw5]
 refine Qq (H.ev g o hw1 F R I h1 fun W1 S1 oc le1 I1 r1=>Qq (wpAny_standAt ?_))
 refine meth_head hw3 (by simp) fun pl=> ?_
 rw [RN.vals]
 refine vRef r1 fun ad ha=> ?_
 refine oE (I1.dict e ha) fun ds D=> ?_
 have sys:=I1.notSys Wh.o ha
 refine oEAA (dictAt_str D hstr) fun kvs hat hvr uu=> ?_
 refine Yk D.typeIs PySem.F.plainAttrs_dict PySem.F.slot_dict_values PySem.F.type_dict_values (fun b hb=>by cases hb;exact ⟨_,D.get,rfl⟩) ?_
 refine Calls.callWith_builtin (Vw _ _ _ _) (PySem.evalArgs_none ?_)
 refine call_meetsIn PySem.F.slot_dict_values D.typeIs PySem.F.entry_dict_values (PySem.F.args_dict_values_1 _) (meets_dict_values (PySem.strKind G.prog G.w) ad sys) ⟨⟨kvs,hat.dictOf⟩,?_⟩
 refine Calls.spliced_nil ?_
 have I2:Inv G C W1 l.vs s1 { S1 with heap:=S1.heap.push { cls:= .type "dict_values",data:= .fields #[.ref ad] } }:=I1.grow (Xk _ _)
 have hV:({ S1 with heap:=S1.heap.push { cls:= .type "dict_values",data:= .fields #[.ref ad] } }:Shared).heap.IsValuesView S1.heap.objs.size ad:=⟨_,Xd _ rfl,rfl,rfl⟩
 have hat2:=hat.push (o:={ cls:= .type "dict_values",data:= .fields #[.ref ad] })
 refine kdl_call (kdl_values (knd:=PySem.strKind G.prog G.w) (kvs:=kvs) (ep:=ep)) F.hand.1 ⟨hV,hat2⟩ ?_ fun h' tk acc c' hk hg hit=> ?_
 ·have:=hvr.length
  simp only [List.length_map] at this
  have q:=Zf hs
  have:=Zv
  lia
 ·have e1:acc.toList=kvs.map (·.2):=kdl_vals_eq acc.toList (by rw [Array.length_toList];exact hit.1) fun j v ej=>hit.2 j v (by rw [←Array.getElem?_toList];exact ej)
  have hg':h'.get? (S1.heap.push { cls:= .type "dict_values",data:= .fields #[.ref ad] }).objs.size=some { cls:= .type "list",data:= .seq (kvs.map (·.2)).toArray c' }:=by rw [←e1,Array.toArray_toList];exact hg
  refine oAA (I2.new (tk:=tk) h (Xw _) hk hg' ⟨_,c',rfl,hvr.mono (W1.le_obj _)⟩) fun uu J r=> ?_
  exact k _ _ _ (le1.trans (W1.le_obj _)) J r
end
section
variable {G:Gl} {C:Cx} {W:Wd} {l:Tr AV} {s:St} {S:Shared} {A:Around} {E:Value→Shared→Prop}
theorem Inv.enterG (I:Inv G C W l s S) {D:Cx} {oL:Obj} {t:Tr AV} (hL:S.heap.get? C.L=some oL) (hD:D.keeps=(C.L,oL)::C.keeps)
  (ap:G.B.get? D.L=none∧D.L ∉ W.σ∧D.L≠C.L∧(∀ p∈W.pin,p.1≠D.L)∧∀ p∈C.keeps,p.1≠D.L)
  (hn:∃ m,S.heap.Ns D.L m∧∀ x v,t.get x=some v→∃ nm cv,D.ln[x]? =some nm∧D.Has W.pin m x nm cv∧VRel G W v cv):Inv G D W t s S:=by
 refine oAAAA ap fun a1 a2 a3 a4 a5=> ?_
 refine ⟨I.base,fun p hp=> ?_,fun p hp=> ?_,fun p hp q hq=> ?_,fun q hq=> ?_,?_,I.objs,I.len,I.nodup,fun a ha=> ?_,hn,a1,I.gens,I.drawn,I.os⟩
 ·refine oAA (I.pin p hp) fun h1 h2 h3=> ?_
  exact ⟨h1,h2,a4 p hp⟩
 ·rw [hD] at hp
  rcases Zq hp with rfl | hp
  ·exact ⟨.inl hL,fun q=>(I.fresh _ q).2.1 rfl,fun e=>a3 e.symm⟩
  ·refine oAA (I.keep p hp) fun h1 h2 h3=> ?_
   exact ⟨h1,h2,a5 p hp⟩
 ·rw [hD] at hq
  rcases Zq hq with rfl | hq
  ·exact (I.pin p hp).2.2
  ·exact I.pk p hp q hq
 ·rw [hD] at hq
  rcases Zq hq with rfl | hq
  ·exact I.locB
  ·exact I.kb q hq
 ·rw [hD]
  refine (?_:(C.L::C.keeps.map (·.1)).Nodup)
  refine List.nodup_cons.mpr ⟨fun hm=> ?_,I.kn⟩
  refine oEA (List.mem_map.mp hm) fun p hp e=> ?_
  exact (I.keep p hp).2.2 e
 ·refine oAAE (I.fresh a ha) fun h1 h2 o h3=> ?_
  exact ⟨h1,fun e=>a2 (e ▸ ha),o,h3⟩
theorem Inv.backG {W':Wd} {t:Tr AV} {s':St} {S':Shared} {oL:Obj} {D:Cx} (I:Inv G C W l s S) (hL:S.heap.get? C.L=some oL) (hD:D.keeps=(C.L,oL)::C.keeps) (le:W.le W') (J:Inv G D W' t s' S'):
  Inv G C W' l s' S':=by
 have kL:=J.keep (C.L,oL) (by rw [hD];exact Qk ..)
 have mk:∀ p∈C.keeps,p∈D.keeps:=fun p hp=>by rw [hD];exact Qj _ hp
 obtain ⟨m,⟨o,es,ep,h1,h2⟩,hl⟩:=I.loc
 refine oEA (kL.1.there) fun o2 g2 d2=> ?_
 refine ⟨J.base,fun p hp=>⟨(J.pin p hp).1,(J.pin p hp).2.1,J.pk p hp (C.L,oL) (by rw [hD];exact Qk ..)⟩,fun p hp=>⟨(J.keep p (mk p hp)).1,(J.keep p (mk p hp)).2.1,(I.keep p hp).2.2⟩,
  fun p hp q hq=>J.pk p hp q (mk q hq),I.kb,I.kn,J.objs,J.len,J.nodup,fun a ha=> ?_,⟨m,⟨o2,es,ep,g2,?_⟩,fun x v e=> ?_⟩,I.locB,J.gens,J.drawn,J.os⟩
 ·refine oAA (J.fresh a ha) fun q1 q2 q3=> ?_
  exact ⟨q1,fun e=>kL.2.1 (e ▸ ha),q3⟩
 ·rw [hL] at h1;(obtain rfl:=Qz h1);rw [d2];exact h2
 ·refine oEEAA (hl x v e) fun nm cv q1 q2 q3=> ?_
  exact ⟨nm,cv,q1,q2.mono le.pin,q3.mono le⟩
end
structure LamAt (G:Gl) (F:Nat × CE) (ln:List String) (g:Nat→Bool) (fd:FuncData):Prop where
 body:fd.body= .expr (embE ⟨theLn ln,G.nm,G.P.strq,[]⟩ F.2)
 wf:wfE g F.2=true
 co:fd.scope.isCoroutine=false
 gen:fd.scope.isGenerator=false
 kind:fd.scope.kind= .function
 cell:∀ x∈fd.scope.names,x.2≠ .cell
 par:∃ x r,ln=x::r∧fd.scope.names.lookup (Str.ofString x)=some .local∧(Str.ofString x==("__debug__" :Str))=false∧
  ∀ y∈r,fd.scope.names.lookup (Str.ofString y)=some .free∧(Str.ofString y==("__classdict__" :Str))=false∧(Str.ofString y==("__debug__" :Str))=false
 nd:(ln.map Str.ofString).Nodup
 glo:∀ x,g x=true→fd.scope.names.lookup (G.nm x)=some .globalImplicit∧(G.nm x==("__debug__" :Str))=false
 gl:fd.globals=G.mA
 bl:fd.builtins=G.bA
 bind:∀ v,bindArgs fd ⟨[v],[]⟩=pure [(Str.ofString (ln.headD ""),v)]
noncomputable def CloIs (G:Gl) (F:Nat × CE) (ln:List String) (g:Nat→Bool) (vs:List Value) (pin:List (Addr × Obj)) (a:Addr):Prop:=
 ∃ o fd c oc cvs t,(a,o)∈pin∧o.data= .func fd∧LamAt G F ln g fd∧fd.code= .ref c∧(c,oc)∈pin∧oc.data= .fields cvs∧cvs[1]? =some (.str fd.qualname t)∧ln.length=vs.length+1∧
  ∀ i v,vs[i]? =some v→∃ nm d od,ln[i+1]? =some nm∧fd.closure.lookup (Str.ofString nm)=some d∧(d,od)∈pin∧od.data= .cell (some v)
theorem CloIs.mono {G:Gl} {F:Nat × CE} {ln:List String} {g:Nat→Bool} {vs:List Value} {p p':List (Addr × Obj)} {a:Addr} (h:CloIs G F ln g vs p a) (k:∀ x∈p,x∈p'):CloIs G F ln g vs p' a:=by
 walk_at "e G F ln g vs p p' a|h k"
 obtain ⟨o,fd,c,oc,cvs,t,h1,h2,h3,h4,h5,h6,h7,h8,h9⟩:=h
 refine ⟨o,fd,c,oc,cvs,t,k _ h1,h2,h3,h4,k _ h5,h6,h7,h8,fun i v e=> ?_⟩
 refine Yd (h9 i v e) fun nm d od q1 q2 q3 q4=> ?_
 exact ⟨nm,d,od,q1,q2,k _ q3,q4⟩
noncomputable def ClosOk (G:Gl):Prop:=∀ k F,G.P.clos k=some F→∀ vs pin a,G.clop k vs pin a→∃ ln g,CloIs G F ln g vs pin a
section
variable {G:Gl} {Ee:Ev} {ok:WF→Prop}
set_option tactic.hygienic true in
theorem clo_ok (GN:GNames G theN) (CO:ClosOk G) (H:EOk2 G ok Ee) {g:Nat→Bool} {x:Nat} {pf p:Pos} {args:List CE} (hw:wfE g (.calL x pf args p)=true):EvAt G (stepE G.P theN Ee) g (.calL x pf args p):=by
 intro C W l s S v s' Q X F R I h k
 walk_at "e G Ee ok|GN CO H|g x pf p args|hw|C W l s S v s' Q X|F R I h k"
 replace hw:=bt1 hw
 walk_at "m m171 h kk fv h hx"
 walk_at "m m172 h Fc h hF"
 walk_at "m m27 h vs s1 h h1"
 walk_at "M m44 h w h"
 split at h
 ·exact nos h
 ·rename_i d hdep
  walk_at "m m28 h t h ht"
  refine (?_:wpAny _ _ (eval (.Call (.Name (theLn C.ln x) pf) (embEs (C.em G) args) [] p) C.env) _ _ _)
  refine wpAny_Call_NameR (I.load F hx fun fc rf=> ?_)
  cases rf with | @clo _ _ fvs a rv hc=>
  refine oEE (CO kk Fc hF fvs W.pin a hc) fun ln g' hcl=> ?_
  obtain ⟨o,fd,c,oc,cvs,tq,m1,m2,LA,m4,m5,m6,m7,m8,m9⟩:=hcl
  refine Calls.callWith_function (o:=o) (fd:=fd) (Xg H.toEOk hw.1 F R I h1 fun W1 S1 us le1 I1 r1=>⟨⟨(I1.pin _ (le1.pin _ m1)).1,m2⟩,?_⟩)
  cases r1 with | @cons _ uv _ _ ru rn=>
  refine vsN rn ?_
  refine wpAny_call ?_
  have hnl:S1.heap.NoLimit:=GN.nolimit.at fun o e=>I1.base _ o e
  have hcd:S1.heap.CodeRec fd.code fd.qualname:=⟨c,oc,cvs,tq,m4,(I1.pin _ (le1.pin _ m5)).1,m6,m7⟩
  (refine Yg (LA.par) fun px pr q2z p1 p2 p3=> ?_;subst q2z)
  obtain ⟨mm,⟨oL,es,ep,hL,hLr⟩,hloc⟩:=id I1.loc
  have hdp:=R.2
  have hun:=R.1
  rw [hdep] at hdp hun
  have hsz:=Xw S1.heap
  refine kla_callFunE (by lia) (I1.pin _ (le1.pin _ m1)).1 m2 LA.co LA.gen LA.body hcd ?_
  refine (?_:wpAny _ _ (bindArgs fd ⟨[uv],[]⟩) _ _ _)
  rw [LA.bind uv]
  refine Qw (wpAny_newFunctionEnv LA.cell (fun y hy=>by rw [List.mem_singleton] at hy;subst hy;exact p1) (fun h₁ hns hsb=>⟨hnl.fresh _ hsb,?_⟩) LA.kind)
  have hk1:∀ b o,S1.heap.get? b=some o→h₁.get? b=some o:=fun b o e=>hsb.extBut b o (Nat.ne_of_lt (Heap.lt_size e)) (Qv _ e)
  have I2:Inv G C W1 l.vs s1 { S1 with heap:=h₁,toks:=S1.toks+1 }:=I1.grow hk1
  let D:Cx:=⟨C.A.deeper (callEnv fd S1.heap.objs.size a),callEnv fd S1.heap.objs.size a,px::pr,(C.L,oL)::C.keeps,fun i=>match i with | 0=>none | i+1=>match pr[i]? with | some nm=>fd.closure.lookup (Str.ofString nm) | none=>none,[]⟩
  have ap:=I1.apart hsz
  have hvlen:fvs.length=pr.length:=by simp at m8;lia
  have J:Inv G D W1 t s1 { S1 with heap:=h₁,toks:=S1.toks+1 }:=by
   refine I2.enterG (D:=D) (hk1 _ _ hL) rfl ap ⟨_,hns,fun i u e=> ?_⟩
   have e:=bindP_nil ht e
   cases i with
   | zero=>
    simp only [List.getElem?_cons_zero,Option.some.injEq] at e
    subst e
    refine ⟨px,uv,rfl,?_,ru⟩
    refine (?_:(List.reverse [(Str.ofString px,uv)]).lookup (Str.ofString px)=some uv)
    simp
   | succ j=>
    refine oEA (rv.get e) fun cv c1 c2=> ?_
    refine Yd (m9 j cv c1) fun nm dd od n1 n2 n3 n4=> ?_
    simp only [List.getElem?_cons_succ] at n1
    refine ⟨nm,cv,(by refine (?_:(px::pr)[j+1]? =some nm);simpa using n1),?_,c2.mono le1⟩
    have hcell:D.cell (j+1)=some dd:=by refine (?_:(match pr[j]? with | some nm=>fd.closure.lookup (Str.ofString nm) | none=>none)=some dd);rw [n1];exact n2
    unfold Cx.Has
    rw [hcell]
    exact ⟨od,le1.pin _ n3,n4⟩
  have FD:Env0 G D g':=by
   refine ⟨LA.kind,fun i nm e=> ?_,fun i nm e=> ?_,LA.nd,LA.glo,LA.gl,LA.bl,F.hand.deeper (D:=D) (oL:=oL) rfl rfl rfl LA.kind hLr.1⟩
   ·cases i with
    | zero=>simp only [D,List.getElem?_cons_zero,Option.some.injEq] at e;subst e;exact p1
    | succ j=>
     have e:pr[j]? =some nm:=by simpa [D] using e
     have hj:j < fvs.length:=by rw [hvlen];exact (Wn e).1
     refine Yd (m9 j fvs[j] (Qu hj)) fun nm' dd od n1 n2 n3 n4=> ?_
     simp only [List.getElem?_cons_succ] at n1
     rw [e] at n1;(obtain rfl:=Qz n1)
     have hcell:D.cell (j+1)=some dd:=by refine (?_:(match pr[j]? with | some nm=>fd.closure.lookup (Str.ofString nm) | none=>none)=some dd);rw [e];exact n2
     rw [hcell]
     refine oAA (p3 nm (Qx e)) fun q1 q2 q3=> ?_
     exact ⟨.inr ⟨q1,q2⟩,n2⟩
   ·cases i with
    | zero=>simp only [D,List.getElem?_cons_zero,Option.some.injEq] at e;subst e;exact p2
    | succ j=>
     have e:pr[j]? =some nm:=by simpa [D] using e
     exact (p3 nm (Qx e)).2.2
  have RD:Room D d:=⟨by refine (?_:C.A.units+3+16 * d+40≤cLine);lia,by refine (?_:C.A.depth+1+4 * d+4≤recursionLimit);lia⟩
  refine kla_codeExpr (H.ev g' Fc.2 LA.wf (C:=D) (l:=⟨d,t⟩) FD RD J h fun W3 S3 vc le3 J3 r3=> ?_)
  exact k _ _ _ (le1.trans le3) (I2.backG (hk1 _ _ hL) rfl le3 J3) r3
end
structure FnAtC (G:Gl) (F:Fun) (fd:FuncData) (ln:List String) (w:WF):Prop where
 body:fd.body= .stmts (embSs ⟨theLn ln,G.nm,G.P.strq,w.root⟩ F.body)
 wf:wfSs w F.body=true
 co:fd.scope.isCoroutine=false
 gen:fd.scope.isGenerator=false
 kind:fd.scope.kind= .function
 clo:fd.closure=[]
 code:fd.code=w.code
 lnw:ln=w.ln
 loc:∀ nm∈ln,((fd.scope.names.lookup (Str.ofString nm)=some .local∧∀ L,(cellsFrom (L+1) fd.scope.names []).lookup (Str.ofString nm)=none)∨(fd.scope.names.lookup (Str.ofString nm)=some .cell∧∀ L,((cellsFrom (L+1) fd.scope.names []).lookup (Str.ofString nm)).isSome=true))∧(Str.ofString nm==("__debug__" :Str))=false
 nd:(ln.map Str.ofString).Nodup
 np:F.n≤ln.length
 glo:∀ x,w.g x=true→fd.scope.names.lookup (G.nm x)=some .globalImplicit∧(G.nm x==("__debug__" :Str))=false
 gl:fd.globals=G.mA
 bl:fd.builtins=G.bA
 slot:∀ x,w.a x=true→∃ nm,ln[x]? =some nm∧fd.scope.names.lookup (Str.ofString nm)=some .local
 cel:∀ x nm,ln[x]? =some nm→w.a x=false→fd.scope.names.lookup (Str.ofString nm)=some .cell
 dflt:F.dflt=[]
 bind:∀ {vs:List Value},vs.length=F.n→bindArgs fd ⟨vs,[]⟩=pure (((ln.take F.n).map Str.ofString).zip vs)
theorem bindL_other {kd:Str→Option NameKind} {n:Str} {b:List (Str × Value)}:∀ {m:Str→Option Value},n ∉ b.map (·.1)→bindL kd b m n=m n:=by
 induction b with
 | nil=>intro m uu;rfl
 | cons e r ih=>
  intro m h
  cases e with
  | mk k v=>
   rw [List.map_cons,List.mem_cons,not_or] at h
   refine (ih h.2).trans ?_
   by_cases q:kd k=some .local
   ·rw [if_pos q];exact if_neg h.1
   ·rw [if_neg q]
theorem bindL_get {kd:Str→Option NameKind} {n:Str} {v:Value} (hk:kd n=some .local) {b:List (Str × Value)}:∀ {m:Str→Option Value},(b.map (·.1)).Nodup→(n,v)∈b→bindL kd b m n=some v:=by
 induction b with
 | nil=>intro m uu h;cases h
 | cons e r ih=>
  intro m hn h
  rw [List.map_cons,List.nodup_cons] at hn
  rcases Zq h with q | q
  ·subst q
   refine (bindL_other hn.1).trans ?_
   rw [if_pos hk];exact if_pos rfl
  ·cases e with | mk k u=>exact ih hn.2 q
theorem bindC_other {kd:Str→Option NameKind} {n:Str} {b:List (Str × Value)}:∀ {m:Str→Option Value},n ∉ b.map (·.1)→bindC kd b m n=m n:=by
 induction b with
 | nil=>intro m uu;rfl
 | cons e r ih=>
  intro m h
  cases e with
  | mk k v=>
   rw [List.map_cons,List.mem_cons,not_or] at h
   refine (ih h.2).trans ?_
   by_cases q:kd k=some .local
   ·rw [if_pos q]
   ·rw [if_neg q];exact if_neg h.1
theorem bindC_get {kd:Str→Option NameKind} {n:Str} {v:Value} (hk:kd n=some .cell) {b:List (Str × Value)}:∀ {m:Str→Option Value},(b.map (·.1)).Nodup→(n,v)∈b→bindC kd b m n=some v:=by
 induction b with
 | nil=>intro m uu h;cases h
 | cons e r ih=>
  intro m hn h
  rw [List.map_cons,List.nodup_cons] at hn
  rcases Zq h with q | q
  ·subst q
   refine (bindC_other hn.1).trans ?_
   rw [if_neg (by rw [hk];decide)];exact if_pos rfl
  ·cases e with | mk k u=>exact ih hn.2 q
section
variable {G:Gl} {Ee:Ev} {ok:WF→Prop}
theorem Inv.pinAll {C:Cx} {l:Tr AV} {s:St} {S:Shared}:∀ (cs:List (Addr × Obj)) {W:Wd},Inv G C W l s S→(∀ p∈cs,S.heap.get? p.1=some p.2∧p.1 ∉ W.σ∧p.1≠C.L∧∀ q∈C.keeps,q.1≠p.1)→Inv G C ⟨W.σ,cs++W.pin⟩ l s S
 | [],W,I,_=>I
 | p::r,W,I,h=>by
  have J:=Inv.pinAll r I fun q hq=>h q (Qj _ hq)
  refine oAAA (h p (Qk ..)) fun h1 h2 h3 h4=> ?_
  exact J.pinned h1 h2 h3 h4
noncomputable def cellF (ln:List String) (cs:List (Str × Addr)) (i:Nat):Option Addr:=match ln[i]? with
 | some nm=>cs.lookup (Str.ofString nm)
 | none=>none
theorem cellF_at {ln:List String} {cs:List (Str × Addr)} {i:Nat} {nm:String} (e:ln[i]? =some nm):cellF ln cs i=cs.lookup (Str.ofString nm):=by unfold cellF;rw [e]
theorem call_fnC (GN:GNames G theN) (H:EOk2 G ok Ee) {F:Fun} {fd:FuncData} {ln:List String} {w:WF} {a:Addr} {o:Obj} (T:FnAtC G F fd ln w) (hwk:ok w) (ha:G.B.get? a=some o) (hd:o.data= .func fd) (hcd:G.B.CodeRec fd.code fd.qualname):CallAt G Ee F a:=by
 intro C W l s S args vs v s' R hh Rm I h hv k
 walk_at "e G Ee ok|GN H|F fd ln w a o|T hwk ha hd hcd|C W l s S args vs v s' R|hh Rm I h hv k"
 refine runF_inv h fun d args' t fl l2 hdep h1 hlen ht h2 hfl=> ?_
 clear h
 ·skip
  have hargs:args'=args:=by
   rw [T.dflt] at h1
   walk_at "m m12 h1 h1 _"
   rw [Vq,List.drop_nil,app_eq,List.append_nil] at h1
   refine e1 h1 ?_;rfl
  subst hargs
  obtain ⟨m,⟨oL,es,ep,hL,hLr⟩,hloc⟩:=id I.loc
  have ul:=hv.length
  have hnl:S.heap.NoLimit:=GN.nolimit.at fun o e=>I.base _ o e
  have hcd':S.heap.CodeRec fd.code fd.qualname:=by
   refine oEEEEAA hcd fun c o vs t q1 q2 q3=> ?_;exact ⟨c,o,vs,t,q1,I.base _ _ q2,q3⟩
  have hdp:=Rm.2
  have hun:=Rm.1
  rw [hdep] at hdp hun
  have hvl:vs.length=F.n:=by lia
  have mem:∀ x nm cv,x < F.n→ln[x]? =some nm→vs[x]? =some cv→(Str.ofString nm,cv)∈((ln.take F.n).map Str.ofString).zip vs:=fun x nm cv hx e c1=>by
   refine List.mem_iff_getElem?.mpr ⟨x,?_⟩
   rw [List.getElem?_zip_eq_some]
   refine ⟨?_,c1⟩
   rw [List.getElem?_map,List.getElem?_take_of_lt hx,e];rfl
  have nd:((((ln.take F.n).map Str.ofString).zip vs).map (·.1)).Nodup:=by
   rw [List.map_fst_zip (by have:=T.np;simp;lia)]
   exact (T.nd.sublist ((List.take_sublist F.n ln).map _))
  refine codeAny_call_cells (by lia) (I.base _ _ ha) hd hnl hcd' T.body (T.bind hvl) T.clo (fun x hx=> ?_) (fun s₁ xc=> ?_) T.co T.gen T.kind
  ·have:=(List.of_mem_zip hx).1
   refine oEA (List.mem_map.mp this) fun nm hnm e=> ?_
   rw [←e]
   rcases (T.loc nm (List.mem_of_mem_take hnm)).1 with q | ⟨q1,q2⟩
   ·exact .inl q.1
   ·exact .inr ⟨q1,q2 _⟩
  ·have I1:Inv G C W l.vs s s₁:=by
    refine oEE (xc.toInCall.same) fun h' tk e1=> ?_
    have e:=xc.toInCall.keep
    rw [e1] at e ⊢
    exact I.grow e
   let cm:=bindC (callEnvC fd S.heap.objs.size a).kindOf (((ln.take F.n).map Str.ofString).zip vs) fun uu=>none
   let cs:List (Addr × Obj):=(callEnvC fd S.heap.objs.size a).cells.filterMap fun p=>(s₁.heap.get? p.2).map fun o=>(p.2,o)
   have hL0:(callEnvC fd S.heap.objs.size a).locals=S.heap.objs.size:=rfl
   have nw:∀ c,S.heap.objs.size≤c→S.heap.get? c=none:=fun c hc=>Heap.get?_none_of_le hc
   have hcs:∀ p∈cs,s₁.heap.get? p.1=some p.2∧S.heap.objs.size < p.1:=by
    intro p hp
    refine oEA (List.mem_filterMap.mp hp) fun q hq e=> ?_
    (refine oEA (Option.map_eq_some_iff.mp e) fun o' ho' q2z=> ?_;subst q2z)
    exact ⟨ho',xc.above q.1 q.2 hq⟩
   have I2:Inv G C ⟨W.σ,cs++W.pin⟩ l.vs s s₁:=I1.pinAll cs fun p hp=>by
    refine oA (hcs p hp) fun q1 q2=> ?_
    refine oAAAA (I.apart (nw p.1 (Nat.le_of_lt q2))) fun a1 a2 a3 a4 a5=> ?_
    exact ⟨q1,a2,a3,a5⟩
   have le0:W.le ⟨W.σ,cs++W.pin⟩:=⟨fun uu uu e=>e,fun p hp=>Wf _ hp⟩
   have hL1:s₁.heap.get? C.L=some oL:=xc.toInCall.keep _ _ hL
   let D:Cx:=⟨C.A.deeper (callEnvC fd S.heap.objs.size a),callEnvC fd S.heap.objs.size a,ln,(C.L,oL)::C.keeps,cellF ln (callEnvC fd S.heap.objs.size a).cells,w.root⟩
   have kindIs:∀ n,(callEnvC fd S.heap.objs.size a).kindOf n=fd.scope.names.lookup n:=fun uu=>rfl
   have cellsIs:(callEnvC fd S.heap.objs.size a).cells=cellsFrom (S.heap.objs.size+1) fd.scope.names []:=rfl
   have apL:=I.apart (Xw S.heap)
   have J:Inv G D ⟨W.σ,cs++W.pin⟩ t s s₁:=by
    refine I2.enterG (D:=D) hL1 rfl ⟨apL.1,apL.2.1,apL.2.2.1,fun p hp=> ?_,apL.2.2.2.2⟩ ⟨_,xc.toInCall.ns,fun i u e=> ?_⟩
    ·rcases Zx hp with q | q
     ·exact Nat.ne_of_gt (hcs p q).2
     ·exact apL.2.2.2.1 p q
    ·have e:=bindP_nil ht e
     refine oEA (hv.get e) fun cv c1 c2=> ?_
     have hx:i < F.n:=by rw [←hlen];exact (Wn e).1
     have hx2:i < ln.length:=Wx hx T.np
     have e1:ln[i]? =some ln[i]:=Qu hx2
     refine ⟨ln[i],cv,e1,?_,c2.mono le0⟩
     rcases (T.loc ln[i] (List.getElem_mem hx2)).1 with ⟨q1,q2⟩ | ⟨q1,q2⟩
     ·have hc:D.cell i=none:=(cellF_at e1).trans (q2 _)
      unfold Cx.Has
      rw [hc]
      exact bindL_get (by rw [kindIs];exact q1) nd (mem i _ _ hx e1 c1)
     ·refine oE (Option.isSome_iff_exists.mp (q2 S.heap.objs.size)) fun c hc0=> ?_
      have hc:D.cell i=some c:=(cellF_at e1).trans hc0
      unfold Cx.Has
      rw [hc]
      refine oEA (xc.cell _ c hc0) fun oc g1 g2=> ?_
      rw [bindC_get (by rw [kindIs];exact q1) nd (mem i _ _ hx e1 c1)] at g2
      refine ⟨oc,List.mem_append_left _ (List.mem_filterMap.mpr ⟨(Str.ofString ln[i],c),mem_of_lookup hc0,?_⟩),g2⟩
      rw [g1];rfl
   have E1:Env1 G D w:=by
    refine ⟨⟨T.kind,fun x nm e=> ?_,fun x nm e=>(T.loc nm (Qx e)).2,T.nd,T.glo,T.gl,T.bl,hh.deeper (D:=D) (oL:=oL) rfl rfl rfl T.kind hLr.1⟩,rfl,T.code,T.lnw,fun x nm e q=> ?_,fun x e=> ?_⟩
    ·have e:ln[x]? =some nm:=e
     rcases (T.loc nm (Qx e)).1 with ⟨q1,q2⟩ | ⟨q1,q2⟩
     ·have hc:D.cell x=none:=(cellF_at e).trans (q2 _)
      rw [hc];exact q1
     ·refine oE (Option.isSome_iff_exists.mp (q2 S.heap.objs.size)) fun c hc0=> ?_
      have hc:D.cell x=some c:=(cellF_at e).trans hc0
      rw [hc];exact ⟨.inl q1,hc0⟩
    ·have e:ln[x]? =some nm:=by rw [T.lnw];exact e
     have q1:=T.cel x nm e q
     rcases (T.loc nm (Qx e)).1 with ⟨q2,_⟩ | ⟨_,q2⟩
     ·rw [q1] at q2;cases q2
     ·refine oE (Option.isSome_iff_exists.mp (q2 S.heap.objs.size)) fun c hc0=> ?_
      exact ⟨c,(cellF_at e).trans hc0⟩
    ·refine oEA (T.slot x e) fun nm e1 e2=> ?_
     refine ⟨?_,nm,e1⟩
     refine (cellF_at e1).trans ?_
     rcases (T.loc nm (Qx e1)).1 with ⟨q1,q2⟩ | ⟨q1,q2⟩
     ·exact q2 _
     ·rw [e2] at q1;cases q1
   have RD:Room D d:=⟨by refine (?_:C.A.units+3+16 * d+40≤cLine);lia,by refine (?_:C.A.depth+1+4 * d+4≤recursionLimit);lia⟩
   refine H.ex w hwk F.body T.wf E1 (show Room _ (Lo.mk d t).dep from RD) J h2 fun uu W1 S1 f le1 J1 r1=> ?_
   have I3:=I2.backG (D:=D) hL1 rfl le1 J1
   have le2:=le0.trans le1
   rcases hfl with q | q
   ·subst q;refine fRe r1 fun uu r1=> ?_;exact k _ _ _ le2 I3 r1
   ·refine oA q fun q q2=> ?_;subst q q2;refine fNx r1 ?_;exact k _ _ _ le2 I3 .non
end
noncomputable def placeBody (n1 n2:Str) (p:Nat→Pos) (k1 k2:Nat) (sc:Scope):List PySem.Stmt:=[.Return (some (.IfExp (.Name "items" (p 1)) (.Call (.Name "tuple" (p 2))
  [.ListComp (.Tuple [.Attribute (.Name "p" (p 3)) n1 (p 4),.Attribute (.Name "p" (p 5)) n2 (p 6)] k1 (p 7)) [⟨.Name "p" (p 8),.Name "items" (p 9),[],0⟩] sc (p 10)] [] (p 11)) (.Tuple [] k2 (p 12)) (p 13))) (p 14)]
structure PlaceAt (G:Gl) (fd:FuncData):Prop where
 body:∃ p k1 k2 sc,fd.body= .stmts (placeBody (G.nm n_number) (G.nm n_lr_index) p k1 k2 sc)∧
  (∀ x∈sc.names,x.2≠ .free)∧(∀ x∈sc.names,x.2≠ .cell)∧sc.kind= .function∧(∀ x∈sc.names,x.2= .local→sc.names.lookup x.1=some .local)∧sc.names.lookup (Str.ofString "p")=some .local
 co:fd.scope.isCoroutine=false
 gen:fd.scope.isGenerator=false
 kind:fd.scope.kind= .function
 cell:∀ x∈fd.scope.names,x.2≠ .cell
 loc:fd.scope.names.lookup (Str.ofString "items")=some .local
 tup:fd.scope.names.lookup (Str.ofString "tuple")=some .globalImplicit
 tnm:G.nm theN.tuple=Str.ofString "tuple"
 gl:fd.globals=G.mA
 bl:fd.builtins=G.bA
 bind:∀ v,bindArgs fd ⟨[v],[]⟩=pure [(Str.ofString "items",v)]
 o1:G.okA n_number=true
 o2:G.okA n_lr_index=true
section
variable {G:Gl} {Ee:Ev} {ok:WF→Prop}
theorem gAO {β:Type} {r:β} {x:Option AO} {A:AO→β} {B:β} {a:AO} (h:x=some a) (k:A a=r):(match (generalizing:=false) x with | some a=>A a | none=>B)=r:=by cases h;exact k
theorem placeGo_cons {P:Pr} {s:St} {x:AV} {xs r:List AV} (h:placeGo P s (x::xs)=some r):∃ a b r',getA P x n_number s=some (.int a)∧getA P x n_lr_index s=some (.int b)∧placeGo P s xs=some r'∧r= .tup [.int a,.int b]::r':=by
 walk_at "e P s x xs r|h"
 skip
 walk_at "m m17 h a h h1"
 walk_at "m m17 h b h h2"
 walk_at "m m13 h r' h h3"
 refine e1 h ?_;exact ⟨a,b,r',h1,h2,h3,rfl⟩
theorem placeGo_at {P:Pr} {s:St}:∀ {xs r:List AV},placeGo P s xs=some r→r.length=xs.length∧∀ (i:Nat) (x:AV),xs[i]? =some x→∃ a b:Int,getA P x n_number s=some (.int a)∧getA P x n_lr_index s=some (.int b)∧r[i]? =some (AV.tup [.int a,.int b])
 | [],r,h=>by refine e1 h ?_;exact ⟨rfl,fun i x hx=>by simp at hx⟩
 | x::xs,r,h=>by
  (refine Yd (placeGo_cons h) fun a b r' h1 h2 h3 q6z=> ?_;subst q6z)
  refine oA (placeGo_at h3) fun q1 q2=> ?_
  refine ⟨by simp [q1],fun i y hy=> ?_⟩
  cases i with
  | zero=>simp at hy;subst hy;exact ⟨a,b,h1,h2,rfl⟩
  | succ i=>simpa using q2 i y (by simpa using hy)
theorem place_loop (Wh:Whole G) {C:Cx} {W:Wd} {l:Tr AV} {s:St} {S:Shared} {n:Nat} {xs r:List AV} {ad:Addr} {L it acc L2:Addr} {ks:List (Addr × Obj)} {env:Env} {p3 p4 p5 p6 p7 p8 p10:Pos} {k1:Nat} {sc:Scope} {R:Result→Shared→Prop} {A:Around} {iter:PySem.Expr}
  (hP:∀ v a s,getA Pz v a s=getA G.P v a s) (o1:G.okA n_number=true) (o2:G.okA n_lr_index=true) (hh:A.handled=none)
  (e:s.h.get n=some (.list xs)) (hσ:W.σ[n]? =some ad) (hr:placeGo Pz s xs=some r) (hs:xs.length≤4000) (hks:ks.map (·.1)=[it,acc,L2,L]) (hl2:env.locals=L2) (hk:env.scope.kind= .function) (hp:env.kindOf (Str.ofString "p")=some .local)
  (I:Inv G (C.plus ks) W l s S) (hit:S.heap.IsListIter it ad 0) (hacc:S.heap.IsList acc #[]) (hns:∃ m,S.heap.Ns L2 m) {oL:Obj} (hL:S.heap.get? L=some oL)
  (kk:∀ W' S' m ts,W.le W'→Inv G C W' l s S'→VRels G W' r ts→S'.heap.Ns L2 m→S'.heap.IsList acc ts.toArray→(∀ b∈[acc,L2],G.B.get? b=none∧b ∉ W'.σ∧b≠C.L∧(∀ p∈W'.pin,p.1≠b)∧∀ p∈C.keeps,p.1≠b)→R (.ok .next) S'):
  codeAny (model G.prog G.w) A (.compLoop (.ListComp (.Tuple [.Attribute (.Name "p" p3) (G.nm n_number) p4,.Attribute (.Name "p" p5) (G.nm n_lr_index) p6] k1 p7) [⟨.Name "p" p8,iter,[],0⟩] sc p10) 0 (.ref it) (.ref acc) env) R S:=by
 walk_at "e G|Wh|C W l s S n xs r ad L it acc L2 ks env p3 p4 p5 p6 p7 p8 p10 k1 sc R A iter|hP o1 o2 hh e hσ hr hs hks hl2 hk hp I hit hacc hns|oL|hL kk"
 refine oA (placeGo_at hr) fun rl rat=> ?_
 have nd:[it,acc,L2,L].Nodup:=by
  have:=I.kn
  simp only [Cx.plus,List.map_append,hks] at this
  exact (List.nodup_append.mp this).1
 simp only [List.nodup_cons,List.mem_cons,List.not_mem_nil,or_false,not_or] at nd
 obtain ⟨⟨n1,n2,n3⟩,⟨n4,n5⟩,n6,_⟩:=nd
 refine codeAny_compLoop_list (I:=fun k S'=>∃ i W' ks' ts,k=xs.length - i∧i≤xs.length∧W.le W'∧ks'.map (·.1)=[it,acc,L2,L]∧Inv G (C.plus ks') W' l s S'∧S'.heap.IsListIter it ad i∧VRels G W' (r.take i) ts∧
  S'.heap.IsList acc ts.toArray∧(∃ m,S'.heap.Ns L2 m)∧∃ oL,S'.heap.get? L=some oL) ?_ xs.length ⟨0,W,ks,[],rfl,Nat.zero_le _,.refl W,hks,I,hit,by simpa using VRels.nil,hacc,hns,oL,hL⟩
 rintro k S' ⟨i,W',ks',ts,rfl,hi,le,hks',I',hit',hts,hacc',⟨m,hns'⟩,oL',hL'⟩
 have hσ':=le.σ _ _ hσ
 refine oEEAA (I'.list e hσ') fun vs qq hg hrel hl=> ?_
 have hvl:=hrel.length
 refine oEAA (id hacc') fun oac hoac hoac1 hoac2=> ?_
 obtain ⟨oL2,hoL2⟩:∃ o,S'.heap.get? L2=some o:=by refine oEEEA hns' fun o uu uu h uu=> ?_;exact ⟨o,h⟩
 have ne4:∀ {b},b ∉ ks'.map (·.1)→b≠it∧b≠acc∧b≠L2∧b≠L:=fun {b} hb=>by rw [hks'] at hb;simpa using hb
 rcases Nat.lt_or_ge i xs.length with hlt | hge
 ·refine oEA (hrel.get (n:=i) (x:=xs[i]) (Qu hlt)) fun xv hxv rx=> ?_
  refine oEEAA (rat i xs[i] (Qu hlt)) fun na nb g1 g2 g3=> ?_
  rw [hP] at g1 g2
  refine wpAny_pyNext_list_item hit' hl (by simpa using hxv) fun h1 hit1 sb1=> ?_
  refine oEAA (id hit1) fun oi hoi hoi1 hoi2=> ?_
  have I1:Inv G (C.plus [(it,oi),(acc,oac),(L2,oL2),(L,oL')]) W' l s { S' with heap:=h1 }:=I'.turn (tk:=S'.toks) (by rw [hks'];rfl) (fun b o hb q=>(sb1.2 b (ne4 hb).1).trans q) (by
   intro p hp
   simp only [List.mem_cons,List.not_mem_nil,or_false] at hp
   rcases hp with rfl | rfl | rfl | rfl
   ·exact hoi
   ·exact (sb1.2 _ (Ne.symm n1)).trans hoac
   ·exact (sb1.2 _ (Ne.symm n2)).trans hoL2
   ·exact (sb1.2 _ (Ne.symm n3)).trans hL')
  have hn1:h1.Ns env.locals m:=by rw [hl2];exact hns'.sameBut sb1 (Ne.symm n2)
  refine wpAny_assign_Name (wpAny_storeName_local hp hn1 (fun h2 hn2 sb2=> ?_) (by simp [hk]))
  rw [hl2] at hn2 sb2
  obtain ⟨oL2',hoL2'⟩:∃ o,h2.get? L2=some o:=by refine oEEEA (id hn2) fun o uu uu h uu=> ?_;exact ⟨o,h⟩
  have I2:Inv G (C.plus [(it,oi),(acc,oac),(L2,oL2'),(L,oL')]) W' l s { S' with heap:=h2,toks:=S'.toks+1 }:=I1.turn (tk:=S'.toks+1) rfl (fun b o hb q=>(sb2.2 b (by simp at hb;exact hb.2.2.1)).trans q) (by
   intro p hp
   simp only [List.mem_cons,List.not_mem_nil,or_false] at hp
   rcases hp with rfl | rfl | rfl | rfl
   ·exact (sb2.2 _ n2).trans hoi
   ·exact (sb2.2 _ n4).trans ((sb1.2 _ (Ne.symm n1)).trans hoac)
   ·exact hoL2'
   ·exact (sb2.2 _ (Ne.symm n6)).trans ((sb1.2 _ (Ne.symm n3)).trans hL'))
  have attr:∀ (kx:Nat) (v:Int) (pp pq:Pos) (tk0:Nat) {Q:Value→Shared→Prop} {X:Value→Shared→Prop},G.okA kx=true→getA G.P xs[i] kx s=some (.int v)→(∀ tk t,Q (.int v t) { S' with heap:=h2,toks:=tk })→
    wpAny (model G.prog G.w) A (eval (.Attribute (.Name "p" pp) (G.nm kx) pq) env) Q X { S' with heap:=h2,toks:=tk0 }:=by
   intro kx v pp pq tk0 Q X hok hga hq
   rw [arm_eval_Attribute]
   refine Qq (wpAny_Name (wpAny_loadName_local hk hp (by rw [hl2];exact hn2) (v:=xv) (by simp) ?_) (by decide))
   refine Qq (wpAny_standAt (Qq (Qg (Vx Wh.o Wh.cls (I2.toks (tk:=tk0)) hga hok rx fun tk rc r2=>Qq (wpAny_letTemporaryGo (Qw ?_))))))
   refine vInt r2 fun uu=> ?_;exact hq _ _
  refine wpAny_Tuple ?_
  refine Wy (attr n_number na p3 p4 _ o1 g1 fun tk t=>Wy (attr n_lr_index nb p5 p6 _ o2 g2 fun tk' t'=>Calls.spliced_nil ?_))
  refine ⟨by have:=Zv;simp;lia,?_⟩
  refine oEAA ((I2.toks (tk:=tk')).freshTup (xs:=[.int na,.int nb]) (vs:=[.int na t,.int nb t']) (.cons (.int _ _) (.cons (.int _ _) .nil))) fun W3 le3 I3 r3=> ?_
  have hac3:(h2.push { cls:= .type "tuple",data:= .seq [Value.int na t,Value.int nb t'].toArray }).IsList acc ts.toArray:=⟨oac,Qv _ ((sb2.2 _ n4).trans ((sb1.2 _ (Ne.symm n1)).trans hoac)),hoac1,hoac2⟩
  have htl:=hts.length
  simp at htl
  refine wpAny_list_append hac3 (fun h4 hac4 sb4=> ?_) (by have:=Zv;simp;lia)
  refine oEAA (id hac4) fun oac4 hoac4 uu uu=> ?_
  refine ⟨xs.length - (i+1),Nat.sub_lt_sub_left hlt (Wz i),i+1,W3,[(it,oi),(acc,oac4),(L2,oL2'),(L,oL')],ts++ [.ref h2.objs.size],rfl,hlt,le.trans le3,rfl,?_,?_,?_,?_,?_,?_⟩
  ·refine I3.turn (tk:=tk') rfl (fun b o hb q=>(sb4.2 b (by simp at hb;exact hb.2.1)).trans q) (by
    intro p hp
    simp only [List.mem_cons,List.not_mem_nil,or_false] at hp
    rcases hp with rfl | rfl | rfl | rfl
    ·exact (sb4.2 _ n1).trans (Qv _ ((sb2.2 _ n2).trans hoi))
    ·exact hoac4
    ·exact (sb4.2 _ (Ne.symm n4)).trans (Qv _ hoL2')
    ·exact (sb4.2 _ (Ne.symm n5)).trans (Qv _ ((sb2.2 _ (Ne.symm n6)).trans ((sb1.2 _ (Ne.symm n3)).trans hL'))))
  ·exact ⟨oi,(sb4.2 _ n1).trans (Qv _ ((sb2.2 _ n2).trans hoi)),hoi1,hoi2⟩
  ·rw [List.take_add_one,g3]
   exact (hts.mono le3).append (.cons r3 .nil)
  ·simpa using hac4
  ·exact ⟨_,(hn2.push _).sameBut sb4 (Ne.symm n4)⟩
  ·exact ⟨oL',(sb4.2 _ (Ne.symm n5)).trans (Qv _ ((sb2.2 _ (Ne.symm n6)).trans ((sb1.2 _ (Ne.symm n3)).trans hL')))⟩
 ·have hi2:i=xs.length:=Nat.le_antisymm hi hge
  subst hi2
  refine wpAny_pyNext_list_end hh hit' hl (by simp;lia) fun h1 ext=> ?_
  have I1:Inv G C W' l s { S' with heap:=h1 }:=I'.turnEnd (tk:=S'.toks) fun b o hb q=>ext b o (ne4 hb).1 q
  rw [←rl,List.take_length] at hts
  refine kk W' _ m ts le I1 hts (hns'.extBut ext (Ne.symm n2)) ⟨oac,ext _ _ (Ne.symm n1) hoac,hoac1,hoac2⟩ fun b hb=> ?_
  have hbk:b∈ks'.map (·.1):=by rw [hks'];simp at hb ⊢;rcases hb with rfl | rfl <;> simp
  (refine oEA (List.mem_map.mp hbk) fun p hp q2z=> ?_;subst q2z)
  have hpk:p∈(C.plus ks').keeps:=List.mem_append_left _ hp
  have kn:(ks'.map (·.1)++C.keeps.map (·.1)).Nodup:=by have:=I'.kn;simpa only [Cx.plus,List.map_append] using this
  exact ⟨I'.kb p hpk,(I'.keep p hpk).2.1,(I'.keep p hpk).2.2,fun r hr=>I'.pk r hr p hpk,fun r hr q=>(List.nodup_append.mp kn).2.2 _ hbk _ (List.mem_map_of_mem hr) q.symm⟩
theorem call_place (Wh:Whole G) (hP:∀ v a s,getA Pz v a s=getA G.P v a s) {fd:FuncData} {a:Addr} {o:Obj} (T:PlaceAt G fd) (ha:G.B.get? a=some o) (hd:o.data= .func fd) (hcd:G.B.CodeRec fd.code fd.qualname)
  {C:Cx} {W:Wd} {l:Lo} {s:St} {S:Shared} {args:List AV} {vs:List Value} {v:AV} {s':St} {R:Result→Shared→Prop} (hh:C.A.handled=none) (Rm:RoomC C l.dep) (I:Inv G C W l.vs s S) (h:thePrim Pz n_place_of args s=some (v,s')) (hv:VRels G W args vs)
  (k:∀ W' S' vc,W.le W'→Inv G C W' l.vs s' S'→VRel G W' v vc→R (.ok (.ret vc)) S'):codeAny (model G.prog G.w) C.A (.call (.ref a) ⟨vs,[]⟩) R S:=by
 walk_at "e G|Wh hP|fd a o|T ha hd hcd|C W l s S args vs v s' R|hh Rm I h hv k"
 unfold thePrim at h
 rw [show Nat.beq n_place_of n_place_of=true from rfl] at h
 walk_at "M m92 h n h"
 walk_at "m m73 h xs h e"
 walk_at "m m12 h h hs"
 walk_at "m m13 h r h hr"
 ((refine oA (i2 h) fun q0z q1z=> ?_;subst q0z q1z))
 refine vsC hv fun uu uu ra rb=> ?_
 refine vsN rb ?_
 refine vRef ra fun ad hσ=> ?_
 refine oEEAA (I.list e hσ) fun ps q hg hrel hl=> ?_
 obtain ⟨p,k1,k2,sc,hbody,sc1,sc2,sc3,sc4,sc5⟩:=T.body
 have hnl:S.heap.NoLimit:=Wh.names.nolimit.at fun o e=>I.base _ o e
 have hcd':S.heap.CodeRec fd.code fd.qualname:=by
  refine oEEEEAA hcd fun c o vs t q1 q2 q3=> ?_;exact ⟨c,o,vs,t,q1,I.base _ _ q2,q3⟩
 have hdp:=Rm.2
 have hun:=Rm.1
 obtain ⟨m,⟨oL,es,ep,hL,hLr⟩,hloc⟩:=id I.loc
 have hb:BindsTo S fd ⟨[.ref ad],[]⟩ [(Str.ofString "items",.ref ad)]:=BindsTo.of_eq (T.bind _)
 refine codeAny_call_def (by lia) (I.base _ _ ha) hd hnl hcd' hbody hb T.cell (fun x hx=> ?_) (fun h₀ hn hk=> ?_) T.co T.gen T.kind
 ·rw [List.mem_singleton] at hx;subst hx;exact T.loc
 ·have hL0:(callEnv fd S.heap.objs.size a).locals=S.heap.objs.size:=rfl
  obtain ⟨oF,hoF⟩:∃ o,h₀.get? S.heap.objs.size=some o:=by refine oEEEA (id hn) fun o uu uu h uu=> ?_;exact ⟨o,h⟩
  have ap:=I.apart (Xw S.heap)
  have I1:Inv G (C.plus [(S.heap.objs.size,oF)]) W l.vs s { S with heap:=h₀,toks:=S.toks+1 }:=(I.grow (tk:=S.toks+1) hk).open1 ap hoF
  have hl1:h₀.IsList ad ps.toArray:=by refine oEA hl fun o h1 h2=> ?_;exact ⟨o,hk _ _ h1,h2⟩
  have loadI:∀ {pp:Pos} {tk:Nat} {Q:Value→Shared→Prop} {X:Value→Shared→Prop},Q (.ref ad) { S with heap:=h₀,toks:=tk }→wpAny (model G.prog G.w) (C.A.deeper (callEnv fd S.heap.objs.size a)) (eval (.Name "items" pp) (callEnv fd S.heap.objs.size a)) Q X { S with heap:=h₀,toks:=tk }:=by
   intro pp tk Q X hq
   exact wpAny_Name (wpAny_loadName_local T.kind T.loc hn (by simp) hq) (by decide)
  refine Wq (wpAny_Return_some (IfExp_ (isTrue_plain (loadI ?_) rfl)))
  have htr:truth G.P (.ref n) s=some (!xs.isEmpty):=by
   exact gAO e (gO hs (by cases xs <;> rfl))
  refine truth_sound Wh.o I1 htr (.ref hσ) fun tk=> ?_
  cases xs with
  | nil=>
   skip;(obtain rfl:=Qz hr)
   refine wpAny_Tuple (Calls.spliced_nil ⟨Nat.zero_le _,?_⟩)
   refine oEAA ((I1.toks (tk:=tk)).freshTup (xs:=[]) (vs:=[]) .nil) fun W2 le2 I2 r2=> ?_
   exact k _ _ _ le2 I2.drop r2
  | cons x0 xr=>
   refine Yg (Wh.names.glob) fun mg mb g1 g2 g3 g4=> ?_
   refine oAA (g4 (theN.tuple,.type "tuple") (Qx (i:=1) rfl)) fun g5 g6 uu=> ?_
   rw [T.tnm] at g5 g6
   have I2:Inv G (C.plus [(S.heap.objs.size,oF)]) W l.vs s { S with heap:=h₀,toks:=tk }:=I1.toks
   refine wpAny_Call_NameR (Calls.Name_function_global T.kind T.tup (Calls.loadGlobal_builtin (show Heap.Ns _ (callEnv fd S.heap.objs.size a).globals mg from by rw [show (callEnv fd S.heap.objs.size a).globals=G.mA from T.gl];exact I2.ns g1) g5
    (show Heap.Ns _ (callEnv fd S.heap.objs.size a).builtins mb from by rw [show (callEnv fd S.heap.objs.size a).builtins=G.bA from T.bl];exact I2.ns g2) g6 ?_) (by decide))
   refine PySem.callWith_type rfl (Calls.evalArgs_plain (Wy (wpAny_ListComp sc1 sc3 sc4 (loadI ?_) fun uu=>rfl)))
   refine wpAny_pyIter_list hl1 (wpAny_newList ?_)
   refine wpAny_newFunctionEnv sc2 (fun uu hx=>nomatch hx) (fun h1 hn1 sb1=> ?_) sc3
   simp only [Heap.size_push] at hn1 sb1 ⊢
   obtain ⟨it,hit0⟩:∃ it,it=h₀.objs.size:=⟨_,rfl⟩
   obtain ⟨acc,hac0⟩:∃ acc,acc=h₀.objs.size+1:=⟨_,rfl⟩
   obtain ⟨L2,hL20⟩:∃ L2,L2=h₀.objs.size+1+1:=⟨_,rfl⟩
   rw [←hL20] at hn1 sb1 ⊢
   rw [←hac0,←hit0]
   have z1:acc=it+1:=by lia
   have z2:L2=acc+1:=by lia
   have old:∀ (b:Nat) o,h₀.get? b=some o→b < it:=fun b o q=>by rw [hit0];exact Heap.lt_size q
   have e1:∀ b o,h₀.get? b=some o→h1.get? b=some o:=fun b o q=>by
    have:=old b o q
    exact (sb1.2 b (Nat.ne_of_lt (by lia))).trans (Qv _ (Qv _ (Qv _ q)))
   have eit:h1.get? it=some { cls:= .type "list_iterator",data:= .fields #[.ref ad,.int 0 0] }:=(sb1.2 it (Nat.ne_of_lt (by lia))).trans (Qv _ (Qv _ (by rw [hit0];exact Xd _ rfl)))
   have eac:h1.get? acc=some { cls:= .type "list",data:= .seq ([]:List Value).toArray }:=(sb1.2 acc (Nat.ne_of_lt (by lia))).trans (Qv _ (by rw [hac0];have:=Xd (h₀.push { cls:= .type "list_iterator",data:= .fields #[.ref ad,.int 0 0] }) (o:={ cls:= .type "list",data:= .seq ([]:List Value).toArray }) rfl;rw [Heap.size_push] at this;exact this))
   obtain ⟨o2,ho2⟩:∃ o,h1.get? L2=some o:=by refine oEEEA (id hn1) fun o uu uu h uu=> ?_;exact ⟨o,h⟩
   have nn:∀ b:Nat,it≤b→h₀.get? b=none:=fun b hb=>Heap.get?_none_of_le (by lia)
   have hLlt:S.heap.objs.size < it:=old _ _ hoF
   have J0:Inv G (C.plus [(S.heap.objs.size,oF)]) W l.vs s { S with heap:=h1,toks:=tk }:=I2.grow e1
   have a1:=I2.apart (nn L2 (by lia))
   have a2:=I2.apart (nn acc (by lia))
   have a3:=I2.apart (nn it (by lia))
   have J1:=J0.open1 a1 ho2
   have J2:=J1.open1 ⟨a2.1,a2.2.1,a2.2.2.1,a2.2.2.2.1,fun p hp=>by
    rcases Zq hp with rfl | hp
    ·exact Nat.ne_of_gt (by lia)
    ·exact a2.2.2.2.2 p hp⟩ eac
   have J3:=J2.open1 ⟨a3.1,a3.2.1,a3.2.2.1,a3.2.2.2.1,fun p hp=>by
    rcases Zq hp with rfl | hp
    ·exact Nat.ne_of_gt (by lia)
    ·rcases Zq hp with rfl | hp
     ·exact Nat.ne_of_gt (by lia)
     ·exact a3.2.2.2.2 p hp⟩ eit
   have hIt:({ S with heap:=h1,toks:=tk }:Shared).heap.IsListIter it ad 0:=⟨_,eit,rfl,rfl⟩
   have hAc:({ S with heap:=h1,toks:=tk }:Shared).heap.IsList acc #[]:=⟨_,eac,rfl,0,rfl⟩
   refine codeAny_compStart_list ?_ (wpAny_pyIter_listiter hIt ?_)
   all_goals
    refine place_loop Wh (C:=C) (l:=l.vs) (ks:=[(it,{ cls:= .type "list_iterator",data:= .fields #[.ref ad,.int 0 0] }),(acc,{ cls:= .type "list",data:= .seq ([]:List Value).toArray }),(L2,o2),(S.heap.objs.size,oF)]) hP T.o1 T.o2 hh e hσ hr (Zf hs) rfl rfl sc3 sc5 J3 hIt hAc ⟨_,hn1⟩ (e1 _ _ hoF) fun W' S' m' ts le' I' rt hns' hacc' apx=> ?_
    refine ⟨m',hns',fun h' sb'=> ?_⟩
    have sb':Heap.SameBut L2 S'.heap h':=sb'
    refine Calls.spliced_nil ?_
    obtain ⟨oq,hoq⟩:∃ o,S'.heap.get? L2=some o:=by refine oEEEA (id hns') fun o uu uu h uu=> ?_;exact ⟨o,h⟩
    have I'':Inv G C W' l.vs s { S' with heap:=h' }:=(I'.open1 (apx L2 (by simp)) hoq).turnEnd (tk:=S'.toks) fun b o hb q=>(sb'.2 b (by simpa using hb)).trans q
    refine oEAA hacc' fun oa hoa hoa1 hoa2=> ?_
    have hac3:h'.IsList acc ts.toArray:=⟨oa,(sb'.2 acc (Nat.ne_of_lt (by lia))).trans hoa,hoa1,hoa2⟩
    have htl:=rt.length
    have hrl:=(placeGo_at hr).1
    have hxl:=Zf hs
    have sz:=Zv
    refine call_tuple_list hac3 (fun h'' hk''=> ?_) (by simp only [List.size_toArray];lia)
    have I3:Inv G C W' l.vs s { S' with heap:=h'' }:=I''.grow hk''
    refine oEAA (I3.freshTup rt) fun W3 le3 J4 r4=> ?_
    exact k _ _ _ (le'.trans le3) J4 r4
end
end
section
open PySem
theorem body_Pi:r_Pi=embSs (mkEm l_Pi r_Pi) b_Pi:=by rfl
theorem body_Pl:r_Pl=embSs (mkEm l_Pl r_Pl) b_Pl:=by rfl
theorem body_Ii:r_Ii=embSs (mkEm l_Ii r_Ii) b_Ii:=by rfl
theorem body_rt:r_rt=embSs (mkEm l_rt r_rt) b_rt:=by rfl
theorem body_Gi:r_Gi=embSs (mkEm l_Gi r_Gi) b_Gi:=by rfl
theorem body_Gsp:r_Gsp=embSs (mkEm l_Gsp r_Gsp) b_Gsp:=by rfl
theorem body_Gap:r_Gap=embSs (mkEm l_Gap r_Gap) b_Gap:=by rfl
theorem body_Gss:r_Gss=embSs (mkEm l_Gss r_Gss) b_Gss:=by rfl
theorem body_Gup:r_Gup=embSs (mkEm l_Gup r_Gup) b_Gup:=by rfl
theorem body_Gf:r_Gf=embSs (mkEm l_Gf r_Gf) b_Gf:=by rfl
theorem body_Gcfx:r_Gcfx=embSs (mkEm l_Gcfx r_Gcfx) b_Gcfx:=by rfl
theorem body_Gcf:r_Gcf=embSs (mkEm l_Gcf r_Gcf) b_Gcf:=by rfl
theorem body_Gbl:r_Gbl=embSs (mkEm l_Gbl r_Gbl) b_Gbl:=by rfl
theorem body_d:r_d=embSs (mkEm l_d r_d) b_d:=by rfl
theorem body_t:r_t=embSs (mkEm l_t r_t) b_t:=by rfl
theorem body_Li:r_Li=embSs (mkEm l_Li r_Li) b_Li:=by rfl
theorem body_Llc:r_Llc=embSs (mkEm l_Llc r_Llc) b_Llc:=by rfl
theorem body_Llg:r_Llg=embSs (mkEm l_Llg r_Llg) b_Llg:=by rfl
theorem body_Lli:r_Lli=embSs (mkEm l_Lli r_Lli) b_Lli:=by rfl
theorem body_Lcnn:r_Lcnn=embSs (mkEm l_Lcnn r_Lcnn) b_Lcnn:=by rfl
theorem body_Lfnt:r_Lfnt=embSs (mkEm l_Lfnt r_Lfnt) b_Lfnt:=by rfl
theorem body_Ldr:r_Ldr=embSs (mkEm l_Ldr r_Ldr) b_Ldr:=by rfl
theorem body_Lrr:r_Lrr=embSs (mkEm l_Lrr r_Lrr) b_Lrr:=by rfl
theorem body_Lcli:r_Lcli=embSs (mkEm l_Lcli r_Lcli) b_Lcli:=by rfl
theorem body_Lcrs:r_Lcrs=embSs (mkEm l_Lcrs r_Lcrs) b_Lcrs:=by rfl
theorem body_Lcfs:r_Lcfs=embSs (mkEm l_Lcfs r_Lcfs) b_Lcfs:=by rfl
theorem body_Lal:r_Lal=embSs (mkEm l_Lal r_Lal) b_Lal:=by rfl
theorem body_Lall:r_Lall=embSs (mkEm l_Lall r_Lall) b_Lall:=by rfl
theorem body_Llpt:r_Llpt=embSs (mkEm l_Llpt r_Llpt) b_Llpt:=by rfl
theorem body_l:r_l=embSs (mkEm l_l r_l) b_l:=by rfl
theorem body_lsx:r_lsx=embSs (mkEm l_lsx r_lsx) b_lsx:=by rfl
theorem body_lrx:r_lrx=embSs (mkEm l_lrx r_lrx) b_lrx:=by rfl
theorem body_ls:r_ls=embSs (mkEm l_ls r_ls) b_ls:=by rfl
theorem body_lr:r_lr=embSs (mkEm l_lr r_lr) b_lr:=by rfl
theorem body_lf:r_lf=embSs (mkEm l_lf r_lf) b_lf:=by rfl
noncomputable def memN (x:Nat):List Nat→Bool
 | []=>false
 | y::r=>match Nat.beq y x with
  | true=>true
  | false=>memN x r
noncomputable def w_Pi:WF:=⟨fun x=>memN x [2,8,10,13,14],fun x=>Nat.blt x 17,r_Pi,[(0,[14,0,0,0,0]),(1,[14,0,1])],.ref 54,l_Pi⟩
noncomputable def g_Pi:List Nat:=[2,8,10,13,14]
noncomputable def w_Pl:WF:=⟨fun x=>memN x [8],fun x=>Nat.blt x 1,r_Pl,[],.ref 75,l_Pl⟩
noncomputable def g_Pl:List Nat:=[8]
noncomputable def w_Ii:WF:=⟨fun x=>memN x [2,8,19],fun x=>Nat.blt x 3,r_Ii,[],.ref 103,l_Ii⟩
noncomputable def g_Ii:List Nat:=[2,8,19]
noncomputable def w_rt:WF:=⟨fun x=>memN x [8],fun x=>Nat.blt x 3,r_rt,[],.ref 131,l_rt⟩
noncomputable def g_rt:List Nat:=[8]
noncomputable def w_Gi:WF:=⟨fun x=>memN x [33],fun x=>Nat.blt x 3,r_Gi,[],.ref 157,l_Gi⟩
noncomputable def g_Gi:List Nat:=[33]
noncomputable def w_Gsp:WF:=⟨fun x=>memN x [],fun x=>Nat.blt x 4,r_Gsp,[],.ref 178,l_Gsp⟩
noncomputable def g_Gsp:List Nat:=[]
noncomputable def w_Gap:WF:=⟨fun x=>memN x [8,10,23,37,98],fun x=>Nat.blt x 16,r_Gap,[(2,[3,0,5]),(3,[4]),(4,[12])],.ref 186,l_Gap⟩
noncomputable def g_Gap:List Nat:=[8,10,23,37,98]
noncomputable def w_Gss:WF:=⟨fun x=>memN x [37],fun x=>Nat.blt x 2,r_Gss,[],.ref 194,l_Gss⟩
noncomputable def g_Gss:List Nat:=[37]
noncomputable def w_Gup:WF:=⟨fun x=>memN x [],fun x=>Nat.blt x 3,r_Gup,[],.ref 236,l_Gup⟩
noncomputable def g_Gup:List Nat:=[]
noncomputable def w_Gf:WF:=⟨fun x=>memN x [],fun x=>Nat.blt x 6,r_Gf,[],.ref 243,l_Gf⟩
noncomputable def g_Gf:List Nat:=[]
noncomputable def w_Gcfx:WF:=⟨fun x=>memN x [],fun x=>Nat.blt x 6,r_Gcfx,[],.ref 250,l_Gcfx⟩
noncomputable def g_Gcfx:List Nat:=[]
noncomputable def w_Gcf:WF:=⟨fun x=>memN x [8,10],fun x=>Nat.blt x 10,r_Gcf,[],.ref 258,l_Gcf⟩
noncomputable def g_Gcf:List Nat:=[8,10]
noncomputable def w_Gbl:WF:=⟨fun x=>memN x [8,40,98,99],fun x=>Nat.blt x 6,r_Gbl,[(5,[0,0,3,0,0,1,1]),(6,[0,0,3,0,0,1,2])],.ref 265,l_Gbl⟩
noncomputable def g_Gbl:List Nat:=[8,40,98,99]
noncomputable def w_d:WF:=⟨fun x=>memN x [41],fun x=>Nat.blt x 7,r_d,[],.ref 279,l_d⟩
noncomputable def g_d:List Nat:=[41]
noncomputable def w_t:WF:=⟨fun x=>memN x [8,41,43,44],fun x=>Nat.blt x 12,r_t,[],.ref 286,l_t⟩
noncomputable def g_t:List Nat:=[8,41,43,44]
noncomputable def w_Li:WF:=⟨fun x=>memN x [8,19],fun x=>Nat.blt x 5,r_Li,[],.ref 312,l_Li⟩
noncomputable def g_Li:List Nat:=[8,19]
noncomputable def w_Llc:WF:=⟨fun x=>memN x [65],fun x=>Nat.blt x 6,r_Llc,[],.ref 319,l_Llc⟩
noncomputable def g_Llc:List Nat:=[65]
noncomputable def w_Llg:WF:=⟨fun x=>memN x [67],fun x=>Nat.blt x 9,r_Llg,[],.ref 326,l_Llg⟩
noncomputable def g_Llg:List Nat:=[67]
noncomputable def w_Lli:WF:=⟨fun x=>memN x [8,67],fun x=>Nat.blt x 9,r_Lli,[],.ref 333,l_Lli⟩
noncomputable def g_Lli:List Nat:=[8,67]
noncomputable def w_Lcnn:WF:=⟨fun x=>memN x [8,33],fun x=>Nat.blt x 5,r_Lcnn,[],.ref 340,l_Lcnn⟩
noncomputable def g_Lcnn:List Nat:=[8,33]
noncomputable def w_Lfnt:WF:=⟨fun x=>memN x [10],fun x=>Nat.blt x 7,r_Lfnt,[],.ref 347,l_Lfnt⟩
noncomputable def g_Lfnt:List Nat:=[10]
noncomputable def w_Ldr:WF:=⟨fun x=>memN x [],fun x=>Nat.blt x 11,r_Ldr,[],.ref 354,l_Ldr⟩
noncomputable def g_Ldr:List Nat:=[]
noncomputable def w_Lrr:WF:=⟨fun x=>memN x [67],fun x=>Nat.blt x 11,r_Lrr,[],.ref 361,l_Lrr⟩
noncomputable def g_Lrr:List Nat:=[67]
noncomputable def w_Lcli:WF:=⟨fun x=>memN x [67],fun x=>Nat.blt x 19,r_Lcli,[],.ref 368,l_Lcli⟩
noncomputable def g_Lcli:List Nat:=[67]
noncomputable def w_Lcrs:WF:=⟨fun x=>memN x [42],fun x=>memN x [2,4,5,6],r_Lcrs,[(7,[0]),(8,[1])],.ref 375,l_Lcrs⟩
noncomputable def g_Lcrs:List Nat:=[42]
noncomputable def w_Lcfs:WF:=⟨fun x=>memN x [42],fun x=>memN x [0,1,4,5,6],r_Lcfs,[(9,[0]),(10,[1])],.ref 382,l_Lcfs⟩
noncomputable def g_Lcfs:List Nat:=[42]
noncomputable def w_Lal:WF:=⟨fun x=>memN x [],fun x=>Nat.blt x 9,r_Lal,[],.ref 389,l_Lal⟩
noncomputable def g_Lal:List Nat:=[]
noncomputable def w_Lall:WF:=⟨fun x=>memN x [],fun x=>Nat.blt x 8,r_Lall,[],.ref 396,l_Lall⟩
noncomputable def g_Lall:List Nat:=[]
noncomputable def w_Llpt:WF:=⟨fun x=>memN x [10,67],fun x=>Nat.blt x 31,r_Llpt,[(11,[7,0,3,0,0,1,2,0,2,0,1,0,0,1,0,0,2])],.ref 403,l_Llpt⟩
noncomputable def g_Llpt:List Nat:=[10,67]
noncomputable def w_l:WF:=⟨fun x=>memN x [8,10,80,84,86,87,88,95],fun x=>Nat.blt x 13,r_l,[(12,[4,0,0]),(13,[4,0,1])],.ref 460,l_l⟩
noncomputable def g_l:List Nat:=[8,10,80,84,86,87,88,95]
noncomputable def w_lsx:WF:=⟨fun x=>memN x [],fun x=>Nat.blt x 0,r_lsx,[],.ref 425,l_lsx⟩
noncomputable def g_lsx:List Nat:=[]
noncomputable def w_lrx:WF:=⟨fun x=>memN x [96],fun x=>Nat.blt x 6,r_lrx,[],.ref 432,l_lrx⟩
noncomputable def g_lrx:List Nat:=[96]
noncomputable def w_ls:WF:=⟨fun x=>memN x [],fun x=>Nat.blt x 5,r_ls,[],.ref 439,l_ls⟩
noncomputable def g_ls:List Nat:=[]
noncomputable def w_lr:WF:=⟨fun x=>memN x [8,87,97],fun x=>Nat.blt x 8,r_lr,[],.ref 446,l_lr⟩
noncomputable def g_lr:List Nat:=[8,87,97]
noncomputable def w_lf:WF:=⟨fun x=>memN x [8,94],fun x=>Nat.blt x 12,r_lf,[],.ref 453,l_lf⟩
noncomputable def g_lf:List Nat:=[8,94]
noncomputable def wT:List (Nat × WF):=[(1000,w_Pi),(1001,w_Pl),(1002,w_Ii),(23,w_rt),(1004,w_Gi),(1005,w_Gsp),(1006,w_Gap),(1007,w_Gss),(1008,w_Gup),(1009,w_Gf),(1010,w_Gcfx),(1011,w_Gcf),(1012,w_Gbl),(42,w_d),(41,w_t),(1015,w_Li),(1016,w_Llc),(1017,w_Llg),(1018,w_Lli),(1019,w_Lcnn),(1020,w_Lfnt),(1021,w_Ldr),(1022,w_Lrr),(1023,w_Lcli),(1024,w_Lcrs),(1025,w_Lcfs),(1026,w_Lal),(1027,w_Lall),(1028,w_Llpt),(89,w_l),(96,w_lsx),(86,w_lrx),(97,w_ls),(87,w_lr),(88,w_lf)]
noncomputable def gadT:List (Nat × Nat):=[(1000,55),(1001,76),(1002,104),(23,132),(1004,158),(1005,179),(1006,187),(1007,195),(1008,237),(1009,244),(1010,251),(1011,259),(1012,266),(42,280),(41,287),(1015,313),(1016,320),(1017,327),(1018,334),(1019,341),(1020,348),(1021,355),(1022,362),(1023,369),(1024,376),(1025,383),(1026,390),(1027,397),(1028,404),(89,461),(96,426),(86,433),(97,440),(87,447),(88,454),(67,26),(37,86),(40,121),(80,269),(84,407),(13,412),(95,419),(1030,165),(2000,462)]
end
section
open PySem PySem.W PyProof.Rows PySem.SeqAt
noncomputable def levOf (second:Int) (k:Nat):Int:=(second.fdiv (3 ^ k)).fmod 3
noncomputable def wayN (first:Int) (lev:Int):Int:=(first.fdiv (3 ^ lev.toNat)).fmod 3
noncomputable def wayS (n:Int):List Nat:=if n=0 then [108,101,102,116] else if n=1 then [114,105,103,104,116] else [110,111,110,97,115,115,111,99]
noncomputable def wayOf (first second:Int) (k:Nat):List Nat:=wayS (wayN first (levOf second k))
noncomputable def theRho (first second:Int) (m:Nat) (v:Value):Prop:=match m with
 | 9=>∃ t,v= .int first t
 | 10=>∃ t,v= .int second t
 | 6=>∃ t,v= .int (levOf second 0) t
 | 7=>∃ t,v= .int (levOf second 1) t
 | 8=>∃ t,v= .int (levOf second 2) t
 | 0=>∃ t,v= .str (mkS (wayOf first second 0)) t
 | 2=>∃ t,v= .str (mkS (wayOf first second 1)) t
 | 4=>∃ t,v= .str (mkS (wayOf first second 2)) t
 | 1=>∃ t,v= .int (levOf second 0+1) t
 | 3=>∃ t,v= .int (levOf second 1+1) t
 | 5=>∃ t,v= .int (levOf second 2+1) t
 | _=>False
theorem rho_lev {f s:Int} {k:Nat} (hk:k < 3) {v:Value}:theRho f s (6+k) v ↔ ∃ t,v= .int (levOf s k) t:=by
 rcases k with _ | _ | _ | k <;> first | exact Iff.rfl | lia
theorem rho_way {f s:Int} {k:Nat} (hk:k < 3) {v:Value}:theRho f s (2 * k) v ↔ ∃ t,v= .str (mkS (wayOf f s k)) t:=by
 rcases k with _ | _ | _ | k <;> first | exact Iff.rfl | lia
theorem rho_num {f s:Int} {k:Nat} (hk:k < 3) {v:Value}:theRho f s (2 * k+1) v ↔ ∃ t,v= .int (levOf s k+1) t:=by
 rcases k with _ | _ | _ | k <;> first | exact Iff.rfl | lia
theorem levOf_range (s:Int) (k:Nat):0≤levOf s k∧levOf s k < 3:=by
 unfold levOf
 rw [Int.fmod_eq_emod_of_nonneg _ (by decide)]
 exact ⟨Int.emod_nonneg _ (by decide),Int.emod_lt_of_pos _ (by decide)⟩
theorem wayN_range (f:Int) (l:Int):0≤wayN f l∧wayN f l < 3:=by
 unfold wayN
 rw [Int.fmod_eq_emod_of_nonneg _ (by decide)]
 exact ⟨Int.emod_nonneg _ (by decide),Int.emod_lt_of_pos _ (by decide)⟩
noncomputable def theAct (f s:Int) (x y p j:Nat) (v:Value):Prop:=
 if levOf s x < levOf s y∨(levOf s x=levOf s y∧wayN f (levOf s x)=1) then ∃ t,v= .int j t
 else if levOf s x=levOf s y∧wayN f (levOf s x)=2 then v= .none
 else ∃ t,v= .int (-(p:Int)) t
structure Spec0 (G:Gl) (f s:Int):Prop where
 P:G.P=P1
 nm:G.nm=theNm
 rho:G.rho=theRho f s
 act:G.actp=theAct f s
theorem isSym_spec {v:Option AV} {k:Nat} (h:isSym v k=true):v=some (.sym k):=by
 cases v with
 | none=>exact fat h
 | some v=>cases v <;> first | exact fat h | exact congrArg (fun m=>some (AV.sym m)) (Qy h)
section
variable {G:Gl} {f s:Int} {A:Around} {E:Value→Shared→Prop}
theorem pow3 {S:Shared} {k:Int} {t u:Tok} {Q:Value→Shared→Prop} (h0:0≤k) (h3:k < 3) (h:∀ t,Q (.int (3 ^ k.toNat) t) { S with toks:=S.toks+1 }):wpAny (model G.prog G.w) A (binaryOp .Pow (.int 3 t) (.int k u)) Q E S:=by
 refine PyProof.Rows.pow_int h0 ?_ (h _)
 have:Builtin.Int.intBits 3=2:=by decide+kernel
 skip;lia
theorem fdiv3 {S:Shared} {a:Int} {k:Nat} {t u:Tok} {Q:Value→Shared→Prop} (h3:k < 3) (h:∀ t,Q (.int (a.fdiv (3 ^ k)) t) { S with toks:=S.toks+1 }):wpAny (model G.prog G.w) A (binaryOp .FloorDiv (.int a t) (.int (3 ^ k) u)) Q E S:=by
 have hb:(3:Int) ^ k≠0:=by
  rcases k with _ | _ | _ | k <;> first | lia | decide
 refine PyProof.Rows.floordiv_int hb (h _) (.inl ?_)
 rcases k with _ | _ | _ | k <;> first | lia | exact PyProof.noPylong_small (by decide)
theorem Yq {r:Option (Lo × St)} {fl:Fl} {l':Lo} {st':St} (h:(match r with | some (l,s)=>some (Fl.next,l,s) | none=>none)=some (fl,l',st')):r=some (l',st')∧fl= .next:=by
 split at h
 ·refine e3 h ?_;exact ⟨rfl,rfl⟩
 ·exact nos h
theorem sp12_ok (Z:Spec0 G f s) {Ee:Ev}:StAt G theN Ee w_l (.spec 12 [4,0,0]):=by
 intro C W l st S fl l' st' Q X F R I h k
 walk_at "e G f s|Z|Ee C W l st S fl l' st' Q X|F R I h k"
 simp only [Z.P] at h
 refine oA (Yq h) fun h0 hfl=> ?_
 subst hfl
 clear h
 have h:sp12 l st=some (l',st'):=h0
 walk_at "m m24 h kk h hk"
 walk_at "m m12 h h hlt"
 rw [blt_eq] at hlt
 have hlt:=Qd hlt
 walk_at "m m12 h h h2"
 have h2:=isSym_spec h2
 walk_at "m m16 h l1 h h3"
 ((refine oA (i2 h) fun q0z q1z=> ?_;subst q0z q1z))
 refine (?_:wpAny _ _ (exec (stAt C.root [4,0,0]) C.env) _ _ _)
 rw [F.root]
 have hln:=F.ln
 have n1:theLn C.ln s_l_second=Str.ofString "second" :=by rw [hln];rfl
 have n2:theLn C.ln s_l_k=Str.ofString "k" :=by rw [hln];rfl
 have n3:theLn C.ln s_l_level=Str.ofString "level" :=by rw [hln];rfl
 refine (?_:wpAny _ _ (exec (.Assign [.Name (Str.ofString "level") _] (.BinOp (.BinOp (.Name (Str.ofString "second") _) .FloorDiv (.BinOp (.Constant (.int 3) _ _) .Pow (.Name (Str.ofString "k") _) _) _) .Mod (.Constant (.int 3) _ _) _) _) _) _ _ _)
 rw [←n1,←n2,←n3]
 refine wpAny_Assign_Name (wpAny_BinOp (wpAny_BinOp (I.load F.e h2 fun sv r2=>wpAny_BinOp (Qn ?_)))) rfl
 refine I.toks.load F.e hk fun kv rk=> ?_
 refine vInt rk fun tk=> ?_
 have r2:=vSym r2
 rw [Z.rho] at r2
 (refine oE r2 fun ts q1z=> ?_;clear r2;subst q1z)
 have hk3:(Int.ofNat kk) < 3:=by refine (?_:((kk:Nat):Int) < 3);lia
 refine pow3 (Int.natCast_nonneg _) hk3 fun t1=>fdiv3 (k:=kk) hlt fun t2=>Qn (PyProof.Rows.mod_int' (by decide) ?_)
 refine Xx F (I.toks (tk:=_)) (by rfl) h3 (.sym (by rw [Z.rho];exact (rho_lev hlt).mpr ⟨_,rfl⟩)) fun S' I'=>k (Lo.set_spec h3).1 _ _ _ (.refl W) I' trivial
end
structure WaysAt (G:Gl) (fd:FuncData):Prop where
 body:∃ p1 p2 p3 p4 p5 k1 k2 k3,fd.body= .stmts [.Return (some (.List [.Constant (.str (mkS [108,101,102,116])) k1 p1,.Constant (.str (mkS [114,105,103,104,116])) k2 p2,.Constant (.str (mkS [110,111,110,97,115,115,111,99])) k3 p3] p4)) p5]
 co:fd.scope.isCoroutine=false
 gen:fd.scope.isGenerator=false
 kind:fd.scope.kind= .function
 cell:∀ x∈fd.scope.names,x.2≠ .cell
 bind:bindArgs fd ⟨[],[]⟩=pure []
structure LawFns (G:Gl):Prop where
 ways:∃ a o fd,G.gad n__law_ways=some (.ref a)∧G.B.get? a=some o∧o.data= .func fd∧WaysAt G fd∧G.B.CodeRec fd.code fd.qualname
section
variable {G:Gl} {f s:Int}
theorem call_ways (Wh:Whole G) {fd:FuncData} {a:Addr} {o:Obj} (T:WaysAt G fd) (ha:G.B.get? a=some o) (hd:o.data= .func fd) (hcd:G.B.CodeRec fd.code fd.qualname) {C:Cx} {W:Wd} {l:Lo} {st:St} {S:Shared} {Q:Value→Shared→Prop} {X:Value→Shared→Prop}
  (Rm:RoomC C l.dep) (I:Inv G C W l.vs st S) (k:∀ h' tk b t1 t2 t3,(∀ b o,S.heap.get? b=some o→h'.get? b=some o)→h'.IsList b #[.str (mkS [108,101,102,116]) t1,.str (mkS [114,105,103,104,116]) t2,.str (mkS [110,111,110,97,115,115,111,99]) t3]→Q (.ref b) { S with heap:=h',toks:=tk }):
  wpAny (model G.prog G.w) C.A (call (.ref a) []) Q X S:=by
 walk_at "e G|Wh|fd a o|T ha hd hcd|C W l st S Q X|Rm I k"
 obtain ⟨p1,p2,p3,p4,p5,k1,k2,k3,hbody⟩:=T.body
 have hnl:S.heap.NoLimit:=Wh.names.nolimit.at fun o e=>I.base _ o e
 have hcd':S.heap.CodeRec fd.code fd.qualname:=by
  refine oEEEEAA hcd fun c o vs t q1 q2 q3=> ?_;exact ⟨c,o,vs,t,q1,I.base _ _ q2,q3⟩
 have hdp:=Rm.2
 refine wpAny_call (codeAny_call_def (by lia) (I.base _ _ ha) hd hnl hcd' hbody (BindsTo.of_eq T.bind) T.cell (fun x hx=>nomatch hx) (fun h₀ hn hk=> ?_) T.co T.gen T.kind)
 refine Wq (wpAny_Return_some (PyProof.Rows.List_ ?_))
 refine (?_:wpAny _ _ (spliced ((false,eval (.Constant (.str (mkS [108,101,102,116])) k1 p1) _)::(false,eval (.Constant (.str (mkS [114,105,103,104,116])) k2 p2) _)::(false,eval (.Constant (.str (mkS [110,111,110,97,115,115,111,99])) k3 p3) _)::[])) _ _ _)
 refine Wy (wpAny_Constant_str (Wy (wpAny_Constant_str (Wy (wpAny_Constant_str (Calls.spliced_nil ?_))))))
 refine wpAny_newList ?_ (by have:=Zv;simp;lia)
 exact k _ _ _ _ _ _ (fun b o e=>Qv _ (hk b o e)) ⟨_,Xd _ rfl,rfl,0,rfl⟩
theorem add_any {A:Around} {S:Shared} {a b:Int} {t u:Tok} {Q:Value→Shared→Prop} {X:Value→Shared→Prop} (h:∀ t tk,Q (.int (a+b) t) { S with toks:=tk }):wpAny (model G.prog G.w) A (binaryOp .Add (.int a t) (.int b u)) Q X S:=PyProof.Rows.add_int (h _ _)
theorem sp13_ok (Wh:Whole G) (Z:Spec0 G f s) (LF:LawFns G) {Ee:Ev}:StAt G theN Ee w_l (.spec 13 [4,0,1]):=by
 intro C W l st S fl l' st' Q X F R I h k
 walk_at "e G f s|Wh Z LF|Ee C W l st S fl l' st' Q X|F R I h k"
 simp only [Z.P] at h
 refine oA (Yq h) fun h0 hfl=> ?_
 subst hfl
 clear h
 have h:sp13 l st=some (l',st'):=h0
 walk_at "m m24 h kk h hk"
 walk_at "m m12 h h hlt"
 rw [blt_eq] at hlt
 have hlt:=Qd hlt
 walk_at "m m12 h h h2"
 have h2:=isSym_spec h2
 walk_at "m m12 h h h3"
 have h3:=isSym_spec h3
 walk_at "m m8 h wv h h4"
 walk_at "m m8 h gv h h5"
 rw [Zk,Zk] at h
 walk_at "m m10 h s1 h h6"
 (obtain ⟨rfl,rfl⟩:=i2 h)
 refine (?_:wpAny _ _ (exec (stAt C.root [4,0,1]) C.env) _ _ _)
 rw [F.root]
 have hln:=F.ln
 have n1:theLn C.ln s_l_first=Str.ofString "first" :=by rw [hln];rfl
 have n2:theLn C.ln s_l_level=Str.ofString "level" :=by rw [hln];rfl
 have n3:theLn C.ln s_l_ways=Str.ofString "ways" :=by rw [hln];rfl
 have n4:theLn C.ln s_l_sign=Str.ofString "sign" :=by rw [hln];rfl
 have n5:G.nm n__law_ways=Str.ofString "_law_ways" :=by rw [Z.nm];rfl
 refine (?_:wpAny _ _ (exec (.Assign [.Subscript (.Name (Str.ofString "ways") _) (.Name (Str.ofString "sign") _) _] (.Tuple [.Subscript (.Call (.Name (Str.ofString "_law_ways") _) [] [] _) (.BinOp (.BinOp (.Name (Str.ofString "first") _) .FloorDiv (.BinOp (.Constant (.int 3) _ _) .Pow (.Name (Str.ofString "level") _) _) _) .Mod (.Constant (.int 3) _ _) _) _,.BinOp (.Name (Str.ofString "level") _) .Add (.Constant (.int 1) _ _) _] _ _) _) _) _ _ _)
 rw [←n1,←n2,←n3,←n4,←n5]
 refine oEEEAAAA (LF.ways) fun a o fd g1 g2 g3 g4 g5=> ?_
 have hglob:G.P.glob n__law_ways=some (.glo n__law_ways):=by rw [Z.P];rfl
 refine oA (levOf_range s kk) fun lv0 lv3=> ?_
 refine wpAny_Assign_Subscript (wpAny_Tuple ?_) rfl
 refine (?_:wpAny _ _ (spliced ((false,eval (.Subscript (.Call (.Name (G.nm n__law_ways) _) [] [] _) (.BinOp (.BinOp (.Name (theLn C.ln s_l_first) _) .FloorDiv (.BinOp (.Constant (.int 3) _ _) .Pow (.Name (theLn C.ln s_l_level) _) _) _) .Mod (.Constant (.int 3) _ _) _) _) C.env)::(false,eval (.BinOp (.Name (theLn C.ln s_l_level) _) .Add (.Constant (.int 1) _ _) _) C.env)::[])) _ _ _)
 refine Wy (Subscript_ (wpAny_Call_NameR (I.gload F.e Wh.names (by rfl) hglob fun vc rv=> ?_)))
 have rv:=vGlo rv
 rw [g1] at rv;refine e1 rv ?_
 refine Calls.callWith_function (o:=o) (fd:=fd) (PySem.evalArgs_none ⟨⟨I.base _ _ g2,g3⟩,call_ways Wh g4 g2 g3 g5 R.c I fun h' tk b t1 t2 t3 hk' hb=> ?_⟩)
 have I2:Inv G C W l.vs st { S with heap:=h',toks:=tk }:=I.grow hk'
 refine wpAny_BinOp (wpAny_BinOp (I2.load F.e h2 fun fv r2=>wpAny_BinOp (Qn (I2.toks.load F.e h3 fun lv r3=> ?_))))
 have r2:=vSym r2
 have r3:=vSym r3
 rw [Z.rho] at r2 r3
 obtain ⟨tf,rfl⟩:=r2
 obtain ⟨tl,rfl⟩:=(rho_lev hlt).mp r3
 refine pow3 lv0 lv3 fun t1'=>fdiv3 (k:=(levOf s kk).toNat) (by lia) fun t2'=>Qn (PyProof.Rows.mod_int' (by decide) ?_)
 refine oA (wayN_range f (levOf s kk)) fun w0 w3=> ?_
 have hidx:((f.fdiv (3 ^ (levOf s kk).toNat)).fmod 3)=wayN f (levOf s kk):=rfl
 skip
 obtain ⟨tw,hitem⟩:∃ tw,(#[Value.str (mkS [108,101,102,116]) t1,.str (mkS [114,105,103,104,116]) t2,.str (mkS [110,111,110,97,115,115,111,99]) t3]:Array Value)[(wayN f (levOf s kk)).toNat]? =some (.str (mkS (wayOf f s kk)) tw):=by
  unfold wayOf
  have:wayN f (levOf s kk)=0∨wayN f (levOf s kk)=1∨wayN f (levOf s kk)=2:=by lia
  rcases this with e | e | e <;> rw [e]
  ·exact ⟨t1,rfl⟩
  ·exact ⟨t2,rfl⟩
  ·exact ⟨t3,rfl⟩
 refine Vn hb.typeIs slot_list_getitem.lookup (wpAny_getItem_list hb w0 (by simp;lia) hitem ?_)
 refine Wy (wpAny_BinOp (I2.toks.load F.e h3 fun lv' r3'=>Qn ?_))
 cases r3' with | sym r3'=>
 rw [Z.rho] at r3'
 obtain ⟨tl',rfl⟩:=(rho_lev hlt).mp r3'
 refine add_any fun tz tkz=>Calls.spliced_nil ⟨by have:=Zv;simp;lia,?_⟩
 refine oEAA ((I2.toks (tk:=tkz)).freshTup (xs:=[.sym (2 * kk),.sym (2 * kk+1)]) (vs:=[.str (mkS (wayOf f s kk)) tw,.int (levOf s kk+1) tz]) (.cons (.sym (by rw [Z.rho];exact (rho_way hlt).mpr ⟨tw,rfl⟩)) (.cons (.sym (by rw [Z.rho];exact (rho_num hlt).mpr ⟨_,rfl⟩)) .nil))) fun W3 le3 I3 r3'=> ?_
 refine I3.load F.e h4 fun ov ro=>I3.load F.e h5 fun iv ri=> ?_
 exact Xu Wh.o I3 R.u7 h6 ro ri r3' fun S' I'=>k rfl _ _ _ le3 I' trivial
end
noncomputable def posT:Nat→Int × Int
 | 0=>(43,25)
 | 1=>(539,13)
 | _=>(545,13)
noncomputable def tabPs (t n:Nat) (ps:Array Value):Prop:=match n with
 | 0=>ps= #[]
 | 1=>∃ c,ps= #[rawInt (posT t).1,rawInt (posT t).2,.ref c]
 | _=>True
noncomputable def theTab (t n:Nat) (o:Obj):Prop:=∃ ps:Array Value,o=tabObj ps∧TriplesOk ps.toList∧tabPs t n ps
noncomputable def codT3:Nat→Addr
 | 0=>54
 | 1=>375
 | _=>382
structure TabG (G:Gl):Prop where
 mA:G.mA=mainGlobals
 bA:G.bA=builtinsNs
 mg:∃ mg,G.B.Ns mainGlobals mg∧∃ bm ob,mg "__builtins__" =some (.ref bm)∧bm≠builtinsNs∧bm≠mainGlobals∧G.B.get? bm=some ob∧ob.cls= .type "module" ∧ob.dict=some builtinsNs∧ob.data= .plain
 none:∀ t,G.B.get? (G.tabA t)=none
 hd:∀ t,t < 3→CodeHd G.B (codT3 t) (G.tabA t)
 tok:G.tabOk=theTab
theorem tabAt_spec {s:St} {t n:Nat} (h:tabAt s t n=true):s.h.get t=some (.tab t n):=by
 have key:∀ x:Option AO,(match x with
   | some (.tab j m)=>(match Nat.beq j t with | true=>Nat.beq m n | false=>false)
   | _=>false)=true→x=some (.tab t n):=by
  intro x h
  cases x with
  | none=>exact fat h
  | some o=>
   cases o with
   | tab j m=>
    refine zBo h (fun h q=> ?_) fun h uu=>fat h
    rw [Qy q,Qy h]
   | _=>exact fat h
 exact key _ h
section
variable {G:Gl} {C:Cx} {W:Wd} {l:Tr AV} {s s':St} {S:Shared} {A:Around} {E:Value→Shared→Prop}
theorem Inv.tab (I:Inv G C W l s S) (TG:TabG G) {t n:Nat} (h:s.h.get t=some (.tab t n)):W.σ[t]? =some (G.tabA t)∧∃ ps,S.heap.get? (G.tabA t)=some (tabObj ps)∧TriplesOk ps.toList∧tabPs t n ps:=by
 obtain ⟨a,co,h1,h2,h3,h4⟩:=I.objs t _ h
 rw [h1] at h3;cases h3
 rw [TG.tok] at h4
 (refine oEAA h4 fun ps q1z q1 q2=> ?_;clear h4;subst q1z)
 exact ⟨h1,ps,h2,q1,q2⟩
theorem mk_lambda (I:Inv G C W l s S) (TG:TabG G) {t n:Nat} (h:s.h.get t=some (.tab t n)) (ht:t < 3) (hu:s.upd t (.tab t (n+1))=some s') (hcode:C.env.code= .ref (codT3 t)) (hgl:C.env.globals=G.mA) {name qual:Str} {params:Arguments} {body:PySem.Expr} {scope:Scope} {pos:Pos} {line:Nat} {clos:List (Str × Addr)} {Q:Value→Shared→Prop}
  (hcl:closureFor scope C.env=pure clos) (hnf:∀ ps,tabPs t n ps→codeAmong pos ps.toList=none) (hnx:∀ ps c,tabPs t n ps→tabPs t (n+1) (ps++ #[rawInt pos.line,rawInt pos.col,.ref c]))
  (k:∀ W' S' f c' oc cvs tq ctv pm,W.le W'→Inv G C W' l s' S'→(f,kla_obj name qual params body scope clos pm c' ctv)∈W'.pin→(c',oc)∈W'.pin→oc.data= .fields cvs→cvs[1]? =some (.str qual tq)→Q (.ref f) S'):
  wpAny (model G.prog G.w) A (makeFunction name qual params (.expr body) scope C.env [] [] [] pos line) Q E S:=by
 refine oEAEEAAAAAA (TG.mg) fun mg g1 bm ob b1 b2 b3 b4 b5 b6 b7=> ?_
 refine oAEAA (I.tab TG h) fun hσ ps hP hok htp=> ?_
 have hb4:=I.base _ _ b4
 have hbP:bm≠G.tabA t:=fun q=>by rw [q,TG.none] at b4;exact nos b4
 have hgP:mainGlobals≠G.tabA t:=fun q=>by refine oEEEA g1 fun o es ep e uu=> ?_;rw [q,TG.none] at e;exact nos e
 refine kla_makeFunction (mg:=mg) hcl (by rw [hgl,TG.mA]) (I.ns g1) hcode ((TG.hd t ht).keeps fun b o e=>I.base _ _ e) hP hok (hnf ps htp) hgP ⟨bm,ob,b1,b2,b3,hbP,hb4,b5,b6,b7⟩ fun c' ctv h' tk hx hge hlt hrec htb=> ?_
 refine oEEEEAAA hrec fun c2 oc cvs tq e2 hoc hd hv=> ?_
 cases e2
 have hsz:=Xw h'
 have I1:Inv G C W l s' { S with heap:=h'.push (kla_obj name qual params body scope clos ((mg "__name__").getD .none) c' ctv),toks:=tk }:=
  I.upd hσ hu (fun b o hb e=>Qv _ (hx b o hb e)) (Qv _ htb) ⟨hσ,by rw [TG.tok];exact ⟨_,rfl,by rw [Array.toList_append];exact TriplesOk_snoc _ _ _ _ hok,hnx ps c' htp⟩⟩
 have ap1:=I.apart (a:=c') (Heap.get?_none_of_le hge)
 have hf:S.heap.objs.size≤h'.objs.size:=Nat.le_trans hge (Nat.le_of_lt hlt)
 have ap2:=I.apart (a:=h'.objs.size) (Heap.get?_none_of_le hf)
 have I2:=I1.pinned (a:=c') (o:=oc) (Qv _ hoc) ap1.2.1 ap1.2.2.1 ap1.2.2.2.2
 have I3:=I2.pinned (a:=h'.objs.size) (o:=kla_obj name qual params body scope clos ((mg "__name__").getD .none) c' ctv) (Xd _ rfl) ap2.2.1 ap2.2.2.1 ap2.2.2.2.2
 exact k _ _ _ c' oc cvs tq ctv _ ((W.le_pin _).trans (Wd.le_pin _ _)) I3 (Qk ..) (Qj _ (Qk ..)) hd hv
end
noncomputable def closL (cells:List (Str × Addr)):List (Str × NameKind)→List (Str × Addr)→List (Str × Addr)
 | [],acc=>acc
 | x::r,acc=>if x.2== .free then match cells.lookup x.1 with
   | some c=>closL cells r ((x.1,c)::acc)
   | none=>closL cells r acc
  else closL cells r acc
theorem closL_s {cells:List (Str × Addr)} {x:Str × NameKind} {r:List (Str × NameKind)} {acc:List (Str × Addr)}:closL cells (x::r) acc=if x.2== .free then match cells.lookup x.1 with
   | some c=>closL cells r ((x.1,c)::acc)
   | none=>closL cells r acc
  else closL cells r acc:=rfl
theorem cellOf_at {env:Env} {n:Str} {c:Addr} (h:env.cells.lookup n=some c):cellOf env n=pure c:=by delta cellOf;rw [h]
theorem closureFor_eq {sc:Scope} {env:Env} (h:∀ x∈sc.names,x.2= .free→∃ c,env.cells.lookup x.1=some c):closureFor sc env=pure (closL env.cells sc.names []):=by
 unfold closureFor
 have key:∀ (names:List (Str × NameKind)) (acc:List (Str × Addr)),(∀ x∈names,x.2= .free→∃ c,env.cells.lookup x.1=some c)→
   (forIn names acc fun x (r:List (Str × Addr))=>(if x.2== .free then do let c ←cellOf env x.1;pure (ForInStep.yield ((x.1,c)::r)) else pure (ForInStep.yield r):Sem (ForInStep (List (Str × Addr)))))=pure (closL env.cells names acc):=by
  intro names
  induction names with
  | nil=>intro acc _;rfl
  | cons x r ih=>
   intro acc hx
   rw [List.forIn_cons,closL_s]
   have ih':=fun acc=>ih acc fun y hy=>hx y (Qj _ hy)
   by_cases q:x.2= .free
   ·have hq:(x.2==NameKind.free)=true:=by rw [q];rfl
    refine oE (hx x (Qk ..) q) fun c hc=> ?_
    rw [if_pos hq,if_pos hq,cellOf_at hc,hc,pure_bind,pure_bind]
    exact ih' _
   ·have hq:¬(x.2==NameKind.free)=true:=fun z=>q (eq_of_beq z)
    rw [if_neg hq,if_neg hq,pure_bind]
    exact ih' _
 have:=key sc.names [] h
 simp only [bind_pure]
 exact this
noncomputable def LamText (r:List Stmt) (path:List Nat) (nm:String) (F:Nat × CE) (ln:List String) (line:Int × Int):Prop:=
 ∃ pr sc ps p1 p2,stAt r path= .Assign [.Name (Str.ofString nm) p1] (.Lambda pr (embE ⟨theLn ln,theNm,theStr,[]⟩ F.2) sc ps) p2∧(∀ env,defaultsOf pr env=([],[]))∧
  sc.isCoroutine=false∧sc.isGenerator=false∧sc.kind= .function∧(sc.names.all fun x=>x.2 != .cell)=true∧
  (∀ (q:Str) cl pm cd ct v,bindArgs (kla_fn "<lambda>" q pr (embE ⟨theLn ln,theNm,theStr,[]⟩ F.2) sc cl pm cd ct) ⟨[v],[]⟩=pure [(Str.ofString (ln.headD ""),v)])∧
  ((sc.names.all fun x=>x.2 != .free || (ln.drop 1).any fun n=>x.1==Str.ofString n)=true∧sc.names.lookup (Str.ofString (ln.headD ""))=some .local∧((ln.drop 1).all fun n=>sc.names.lookup (Str.ofString n)==some .free)=true)∧ps.line=line.1∧ps.col=line.2
theorem lam0:LamText r_Lcrs [0] "FP" clos0 lc0 (539,13):=
 ⟨_,_,_,_,_,rfl,fun uu=>rfl,rfl,rfl,rfl,rfl,fun uu uu uu uu uu uu=>by kernel_rfl,by decide+kernel,rfl,rfl⟩
theorem lam1:LamText r_Lcrs [1] "R" clos1 lc1 (540,12):=
 ⟨_,_,_,_,_,rfl,fun uu=>rfl,rfl,rfl,rfl,rfl,fun uu uu uu uu uu uu=>by kernel_rfl,by decide+kernel,rfl,rfl⟩
theorem lam2:LamText r_Lcfs [0] "FP" clos2 lc2 (545,13):=
 ⟨_,_,_,_,_,rfl,fun uu=>rfl,rfl,rfl,rfl,rfl,fun uu uu uu uu uu uu=>by kernel_rfl,by decide+kernel,rfl,rfl⟩
theorem lam3:LamText r_Lcfs [1] "R" clos3 lc3 (546,12):=
 ⟨_,_,_,_,_,rfl,fun uu=>rfl,rfl,rfl,rfl,rfl,fun uu uu uu uu uu uu=>by kernel_rfl,by decide+kernel,rfl,rfl⟩
theorem Vz {cells:List (Str × Addr)} {n:Str} {c:Addr} (hc:cells.lookup n=some c):∀ (names:List (Str × NameKind)) (acc:List (Str × Addr)),((∃ x∈names,x.1=n∧x.2= .free)∨acc.lookup n=some c)→(closL cells names acc).lookup n=some c
 | [],acc,h=>by
  rcases h with ⟨x,hx,_⟩ | h
  ·cases hx
  ·exact h
 | x::r,acc,h=>by
  rw [closL]
  by_cases q:x.2= .free
  ·simp only [q,beq_self_eq_true,if_true]
   by_cases e:x.1=n
   ·rw [e,hc]
    exact Vz hc r _ (.inr (by simp))
   ·have rest:(∃ y∈r,y.1=n∧y.2= .free)∨acc.lookup n=some c:=by
     rcases h with ⟨y,hy,h1,h2⟩ | h
     ·rcases Zq hy with rfl | hy
      ·exact absurd h1 e
      ·exact .inl ⟨y,hy,h1,h2⟩
     ·exact .inr h
    cases hx:cells.lookup x.1 with
    | none=>exact Vz hc r acc rest
    | some d=>
     refine Vz hc r _ ?_
     rcases rest with h | h
     ·exact .inl h
     ·right
      rw [List.lookup_cons]
      have:(n==x.1)=false:=by simpa using fun z=>e z.symm
      rw [this];exact h
  ·have q':(x.2==NameKind.free)=false:=by simpa using q
   simp only [q',Bool.false_eq_true,if_false]
   refine Vz hc r acc ?_
   rcases h with ⟨y,hy,h1,h2⟩ | h
   ·rcases Zq hy with rfl | hy
    ·exact absurd h2 q
    ·exact .inl ⟨y,hy,h1,h2⟩
   ·exact .inr h
section
variable {G:Gl} {C:Cx} {W:Wd} {s s':St} {S:Shared} {w:WF}
theorem gather {l:Tr AV} (F:Env1 G C w) (I:Inv G C W l s S):∀ (sl:List Nat) (fv:List AV),sl.map l.get=fv.map some→(∀ x∈sl,w.a x=false∧x < w.ln.length)→
  ∃ vs,VRels G W fv vs∧∀ (i:Nat) (v:Value),vs[i]? =some v→∃ x nm d od,sl[i]? =some x∧C.ln[x]? =some nm∧C.env.cells.lookup (Str.ofString nm)=some d∧(d,od)∈W.pin∧od.data= .cell (some v)
 | [],fv,h,_=>by
  cases fv with
  | nil=>exact ⟨[],.nil,fun i v e=>by simp at e⟩
  | cons _ _=>simp at h
 | x::r,fv,h,hs=>by
  cases fv with
  | nil=>simp at h
  | cons a fr=>
   simp only [List.map_cons,List.cons.injEq] at h
   refine oA h fun h1 h2=> ?_
   refine oEA (gather F I r fr h2 fun y hy=>hs y (Qj _ hy)) fun vs k1 k2=> ?_
   refine oEA (I.loc) fun m hn hl=> ?_
   refine oEEAA (hl x a h1) fun nm cv e1 e2 e3=> ?_
   refine oA (hs x (Qk ..)) fun q1 q2=> ?_
   refine oE (F.cel x nm (by rw [←F.ln];exact e1) q1) fun d hd=> ?_
   have hloc:=F.e.loc x nm e1
   rw [hd] at hloc
   unfold Cx.Has at e2
   rw [hd] at e2
   refine oEA e2 fun od e4 e5=> ?_
   refine ⟨cv::vs,.cons e3 k1,fun i v e=> ?_⟩
   cases i with
   | zero=>simp at e;subst e;exact ⟨x,nm,d,od,rfl,e1,hloc.2,e4,e5⟩
   | succ i=>simpa using k2 i v (by simpa using e)
theorem clo_stmt (TG:TabG G) (hnm:G.nm=theNm) (hst:G.P.strq=theStr) {r:List Stmt} {path:List Nat} {nm:String} {Fc:Nat × CE} {ln:List String} {line:Int × Int} (T:LamText r path nm Fc ln line) (hwf:wfE (fun uu=>false) Fc.2=true)
  (hroot:w.root=r) {t n k x:Nat} (hcode:w.code= .ref (codT3 t)) (ht:t < 3) {sl:List Nat} (hln:ln.length=sl.length+1) (hlns:∀ i y,sl[i]? =some y→w.ln[y]? =ln[i+1]?) (hsl:∀ y∈sl,w.a y=false∧y < w.ln.length) (hx:w.a x=true) (hxn:w.ln[x]? =some nm)
  (hnd:(ln.map Str.ofString).Nodup) (hdbg:∀ y∈ln,(Str.ofString y==("__debug__" :Str))=false∧(Str.ofString y==("__classdict__" :Str))=false)
  (hclop:G.clop k=CloIs G Fc ln fun uu=>false) (hnf:∀ ps,tabPs t n ps→∀ pos:Pos,pos.line=line.1→pos.col=line.2→codeAmong pos ps.toList=none)
  (hnx:∀ ps c,tabPs t n ps→∀ pos:Pos,pos.line=line.1→pos.col=line.2→tabPs t (n+1) (ps++ #[rawInt pos.line,rawInt pos.col,.ref c]))
  {l l':Lo} {fv:List AV} (htab:tabAt s t n=true) (hu:s.upd t (.tab t (n+1))=some s') (hfv:sl.map l.vs.get=fv.map some) (hset:l.set x (.clo k fv)=some l')
  {Q:Flow→Shared→Prop} {X:Value→Shared→Prop} (F:Env1 G C w) (I:Inv G C W l.vs s S) (kk:l'.dep=l.dep→ContF G C W .next l' s' Q):wpAny (model G.prog G.w) C.A (exec (stAt C.root path) C.env) Q X S:=by
 walk_at "e G C W s s' S w|TG hnm hst|r path nm Fc ln line|T hwf hroot|t n k x|hcode ht|sl|hln hlns hsl hx hxn hnd hdbg hclop hnf hnx|l l' fv|htab hu hfv hset|Q X|F I kk"
 obtain ⟨pr,sc,ps,p1,p2,e,hdef,c1,c2,c3,c4,hbind,hnames,hl1,hl2⟩:=T
 rw [F.root,hroot,e]
 refine oEA (gather F I sl fv hfv hsl) fun vs rv hcells=> ?_
 have hvl:=rv.length
 have hfl:sl.length=fv.length:=by have:=congrArg List.length hfv;simpa using this
 have free_of:∀ y∈sc.names,y.2= .free→∃ i z,sl[i]? =some z∧∃ nm',ln[i+1]? =some nm'∧y.1=Str.ofString nm':=by
  intro y hy hf
  have h1:=Zz hnames.1 y hy
  rw [hf] at h1
  have h2:((ln.drop 1).any fun n=>y.1==Str.ofString n)=true:=by simpa using h1
  refine oEA (List.any_eq_true.mp h2) fun nm' hm he=> ?_
  refine oE (List.mem_iff_getElem?.mp hm) fun i hi=> ?_
  rw [List.getElem?_drop] at hi
  have hi2:1+i < ln.length:=(Wn hi).1
  have hi3:i < sl.length:=by lia
  exact ⟨i,sl[i],Qu hi3,nm',by rw [Nat.add_comm];exact hi,beq_iff_eq.mp he⟩
 have cell_of:∀ i z,sl[i]? =some z→∃ nm' d od v,ln[i+1]? =some nm'∧C.env.cells.lookup (Str.ofString nm')=some d∧(d,od)∈W.pin∧od.data= .cell (some v)∧vs[i]? =some v:=by
  intro i z hz
  have hi:i < vs.length:=by have:=(Wn hz).1;lia
  refine oEEEEAAAA (hcells i vs[i] (Qu hi)) fun x' nm' d od q1 q2 q3 q4 q5=> ?_
  rw [hz] at q1;(obtain rfl:=Qz q1)
  exact ⟨nm',d,od,vs[i],by rw [←hlns i z hz,←F.ln];exact q2,q3,q4,q5,Qu hi⟩
 have hcl:closureFor sc C.env=pure (closL C.env.cells sc.names []):=closureFor_eq fun y hy hf=>by
  obtain ⟨i,z,hz,nm',hn',e'⟩:=free_of y hy hf
  refine oEEEEAA (cell_of i z hz) fun nm2 d od v q1 q2 uu=> ?_
  rw [hn'] at q1;(obtain rfl:=Qz q1)
  exact ⟨d,by rw [e'];exact q2⟩
 have hcn:theLn C.ln x=Str.ofString nm:=theLn_some (by rw [F.ln];exact hxn)
 rw [←hcn]
 refine wpAny_Assign_Name (kla_eval (hdef _) (mk_lambda I TG (tabAt_spec htab) ht hu (by rw [F.code,hcode]) F.e.gl hcl (fun ps hp=>hnf ps hp _ hl1 hl2) (fun ps c hp=>hnx ps c hp _ hl1 hl2) fun W' S' fa c' oc cvs tq ctv pm le I' m1 m2 d1 d2=> ?_)) rfl
 obtain ⟨px,pr',rfl⟩:∃ px pr',ln=px::pr':=by
  cases ln with
  | nil=>simp at hln
  | cons a b=>exact ⟨a,b,rfl⟩
 have hall:=Zz hnames.2.2
 have frees:∀ y∈pr',sc.names.lookup (Str.ofString y)=some .free:=fun y hy=>by simpa using hall y (by simpa using hy)
 have LA:LamAt G Fc (px::pr') (fun uu=>false) (kla_fn "<lambda>" (C.env.qual++ "<lambda>") pr (embE ⟨theLn (px::pr'),theNm,theStr,[]⟩ Fc.2) sc (closL C.env.cells sc.names []) pm (.ref c') ctv):=by
  refine ⟨?_,hwf,c1,c2,c3,fun y hy=> ?_,⟨px,pr',rfl,hnames.2.1,(hdbg px (Qk ..)).1,fun y hy=>⟨frees y hy,(hdbg y (Qj _ hy)).2,(hdbg y (Qj _ hy)).1⟩⟩,hnd,(fun uu h=>nomatch h),?_,?_,fun v=>hbind _ _ _ _ _ _⟩
  ·rw [hnm,hst]
  ·have:=Zz c4 y hy;simpa using this
  ·exact TG.mA.symm
  ·exact TG.bA.symm
 refine Xx F I' hx hset (.clo (rv.mono le) ?_) fun S2 I2=>kk (Lo.set_spec hset).1 _ _ _ le I2 trivial
 rw [hclop]
 refine ⟨_,_,c',oc,cvs,tq,m1,rfl,LA,rfl,m2,d1,d2,by simp at hln ⊢;lia,fun i v e=> ?_⟩
 have hi:i < sl.length:=by have:=(Wn e).1;lia
 refine oEEEEAAAA (cell_of i sl[i] (Qu hi)) fun nm' d od v' q1 q2 q3 q4 q5=> ?_
 rw [e] at q5;(obtain rfl:=Qz q5)
 refine ⟨nm',d,od,q1,Vz q2 _ _ (.inl ?_),le.pin _ q3,q4⟩
 have hm:nm'∈pr':=by
  exact Qx q1
 exact ⟨_,mem_of_lookup (frees nm' hm),rfl,rfl⟩
end
theorem spC_inv {k t n a b c x:Nat} {l l':Lo} {s s':St} (h:spC k t n a b c x l s=some (l',s')):tabAt s t n=true∧∃ va vb vc,s.upd t (.tab t (n+1))=some s'∧l.get a=some va∧l.get b=some vb∧l.get c=some vc∧l.set x (.clo k [va,vb,vc])=some l':=by
 walk_at "e k t n a b c x l l' s s'|h"
 walk_at "m m12 h h h1"
 walk_at "m m10 h s1 h h2"
 walk_at "m m8 h va h h3"
 walk_at "m m8 h vb h h4"
 walk_at "m m8 h vc h h5"
 walk_at "m m16 h l1 h h6"
 refine e2 h ?_
 exact ⟨h1,va,vb,vc,h2,h3,h4,h5,h6⟩
theorem spC1_inv {k t n a x:Nat} {l l':Lo} {s s':St} (h:spC1 k t n a x l s=some (l',s')):tabAt s t n=true∧∃ va,s.upd t (.tab t (n+1))=some s'∧l.get a=some va∧l.set x (.clo k [va])=some l':=by
 walk_at "e k t n a x l l' s s'|h"
 walk_at "m m12 h h h1"
 walk_at "m m10 h s1 h h2"
 walk_at "m m8 h va h h3"
 walk_at "m m16 h l1 h h6"
 refine e2 h ?_
 exact ⟨h1,va,h2,h3,h6⟩
theorem among_one {pos:Pos} {a b:Int} {c:Addr} (h:(a,b)≠((pos.line:Int),(pos.col:Int))):codeAmong pos [rawInt a,rawInt b,.ref c]=none:=by
 refine (?_:(if (a==(pos.line:Int) && b==(pos.col:Int))=true then _ else codeAmong pos [])=none)
 rw [if_neg]
 ·rfl
 ·intro q
  simp only [Bool.and_eq_true,beq_iff_eq] at q
  exact h (by rw [q.1,q.2])
structure ClopOk (G:Gl):Prop where
 c0:G.clop 0=CloIs G clos0 lc0 fun uu=>false
 c1:G.clop 1=CloIs G clos1 lc1 fun uu=>false
 c2:G.clop 2=CloIs G clos2 lc2 fun uu=>false
 c3:G.clop 3=CloIs G clos3 lc3 fun uu=>false
section
variable {G:Gl} {f s:Int}
theorem sp7_ok (Z:Spec0 G f s) (TG:TabG G) (CL:ClopOk G) {Ee:Ev}:StAt G theN Ee w_Lcrs (.spec 7 [0]):=by
 intro C W l st S fl l' st' Q X F R I h k
 simp only [Z.P] at h
 refine oA (Yq h) fun h0 hfl=> ?_
 subst hfl
 have h1:spC 0 1 0 s_Lcrs_self s_Lcrs_C s_Lcrs_nullable s_Lcrs_FP l st=some (l',st'):=h0
 refine oAEEEAAAA (spC_inv h1) fun q1 va vb vc q2 q3 q4 q5 q6=> ?_
 refine clo_stmt (sl:=[0,1,3]) (x:=4) (fv:=[va,vb,vc]) TG Z.nm (by rw [Z.P];rfl) lam0 (by decide) rfl rfl (by decide) rfl (fun i y e=> ?_) (by decide) (by decide) rfl (by decide+kernel) (by decide+kernel) CL.c0 (fun ps hp pos h1 h2=> ?_) (fun ps c hp pos h1 h2=> ?_) q1 q2 ?_ q6 F I fun e=>k e
 ·rcases i with _ | _ | _ | i <;> simp at e <;> subst e <;> rfl
 ·rw [hp];rfl
 ·rw [hp,h1,h2];exact ⟨c,rfl⟩
 ·simp only [List.map_cons,List.map_nil]
  rw [show l.vs.get 0=some va from q3,show l.vs.get 1=some vb from q4,show l.vs.get 3=some vc from q5]
theorem sp8_ok (Z:Spec0 G f s) (TG:TabG G) (CL:ClopOk G) {Ee:Ev}:StAt G theN Ee w_Lcrs (.spec 8 [1]):=by
 intro C W l st S fl l' st' Q X F R I h k
 simp only [Z.P] at h
 refine oA (Yq h) fun h0 hfl=> ?_
 subst hfl
 have h1:spC 1 1 1 s_Lcrs_self s_Lcrs_C s_Lcrs_nullable s_Lcrs_R l st=some (l',st'):=h0
 refine oAEEEAAAA (spC_inv h1) fun q1 va vb vc q2 q3 q4 q5 q6=> ?_
 refine clo_stmt (sl:=[0,1,3]) (x:=5) (fv:=[va,vb,vc]) TG Z.nm (by rw [Z.P];rfl) lam1 (by decide) rfl rfl (by decide) rfl (fun i y e=> ?_) (by decide) (by decide) rfl (by decide+kernel) (by decide+kernel) CL.c1 (fun ps hp pos h1 h2=> ?_) (fun ps c hp pos h1 h2=> ?_) q1 q2 ?_ q6 F I fun e=>k e
 ·rcases i with _ | _ | _ | i <;> simp at e <;> subst e <;> rfl
 ·(refine oE hp fun c q1z=> ?_;clear hp;subst q1z)
  exact among_one (by rw [h1,h2];decide)
 ·exact trivial
 ·simp only [List.map_cons,List.map_nil]
  rw [show l.vs.get 0=some va from q3,show l.vs.get 1=some vb from q4,show l.vs.get 3=some vc from q5]
theorem sp9_ok (Z:Spec0 G f s) (TG:TabG G) (CL:ClopOk G) {Ee:Ev}:StAt G theN Ee w_Lcfs (.spec 9 [0]):=by
 intro C W l st S fl l' st' Q X F R I h k
 simp only [Z.P] at h
 refine oA (Yq h) fun h0 hfl=> ?_
 subst hfl
 have h1:spC1 2 2 0 s_Lcfs_readsets s_Lcfs_FP l st=some (l',st'):=h0
 refine oAEAA (spC1_inv h1) fun q1 va q2 q3 q6=> ?_
 refine clo_stmt (sl:=[2]) (x:=4) (fv:=[va]) TG Z.nm (by rw [Z.P];rfl) lam2 (by decide) rfl rfl (by decide) rfl (fun i y e=> ?_) (by decide) (by decide) rfl (by decide+kernel) (by decide+kernel) CL.c2 (fun ps hp pos h1 h2=> ?_) (fun ps c hp pos h1 h2=> ?_) q1 q2 ?_ q6 F I fun e=>k e
 ·rcases i with _ | i <;> simp at e <;> subst e <;> rfl
 ·rw [hp];rfl
 ·rw [hp,h1,h2];exact ⟨c,rfl⟩
 ·simp only [List.map_cons,List.map_nil]
  rw [show l.vs.get 2=some va from q3]
theorem sp10_ok (Z:Spec0 G f s) (TG:TabG G) (CL:ClopOk G) {Ee:Ev}:StAt G theN Ee w_Lcfs (.spec 10 [1]):=by
 intro C W l st S fl l' st' Q X F R I h k
 simp only [Z.P] at h
 refine oA (Yq h) fun h0 hfl=> ?_
 subst hfl
 have h1:spC1 3 2 1 s_Lcfs_inclsets s_Lcfs_R l st=some (l',st'):=h0
 refine oAEAA (spC1_inv h1) fun q1 va q2 q3 q6=> ?_
 refine clo_stmt (sl:=[3]) (x:=5) (fv:=[va]) TG Z.nm (by rw [Z.P];rfl) lam3 (by decide) rfl rfl (by decide) rfl (fun i y e=> ?_) (by decide) (by decide) rfl (by decide+kernel) (by decide+kernel) CL.c3 (fun ps hp pos h1 h2=> ?_) (fun ps c hp pos h1 h2=> ?_) q1 q2 ?_ q6 F I fun e=>k e
 ·rcases i with _ | i <;> simp at e <;> subst e <;> rfl
 ·(refine oE hp fun c q1z=> ?_;clear hp;subst q1z)
  exact among_one (by rw [h1,h2];decide)
 ·exact trivial
 ·simp only [List.map_cons,List.map_nil]
  rw [show l.vs.get 3=some va from q3]
end
section
variable {G:Gl} {C:Cx} {W:Wd} {l:Tr AV} {s s':St} {S:Shared} {A:Around} {E:Value→Shared→Prop}
theorem mk_lost (I:Inv G C W l s S) (TG:TabG G) (h:s.h.get 0=some (.tab 0 0)∨s.h.get 0=some (.tab 0 1)) (hu:s.upd 0 (.tab 0 1)=some s') (hcode:C.env.code= .ref 54) (hgl:C.env.globals=G.mA) {name qual:Str} {params:Arguments} {body:FuncBody} {scope:Scope} {pos:Pos} {line:Nat} {dv:List Value} {Q:Value→Shared→Prop}
  (hcl:closureFor scope C.env=pure []) (hl1:pos.line=43) (hl2:pos.col=25) (hdv:dv.isEmpty=false)
  (k:∀ S' v,Inv G C W l s' S'→Q v S'):wpAny (model G.prog G.w) A (makeFunction name qual params body scope C.env dv [] [] pos line) Q E S:=by
 walk_at "e G C W l s s' S A E|I TG h hu hcode hgl|name qual params body scope pos line dv Q|hcl hl1 hl2 hdv k"
 refine oEAEEAAAAAA (TG.mg) fun mg g1 bm ob b1 b2 b3 b4 b5 b6 b7=> ?_
 have hbP:bm≠G.tabA 0:=fun q=>by rw [q,TG.none] at b4;exact nos b4
 have hgP:mainGlobals≠G.tabA 0:=fun q=>by refine oEEEA g1 fun o es ep e uu=> ?_;rw [q,TG.none] at e;exact nos e
 rw [makeFunction_eq]
 simp only [List.zip_nil_right,List.filterMap_nil,List.isEmpty_nil,if_true,pure_bind,hdv,Bool.false_eq_true,if_false]
 refine Qq (wpAny_newTextTuple ?_)
 have I0:Inv G C W l s { S with heap:=S.heap.push { cls:= .type "tuple",data:= .seq dv.toArray } }:=I.grow (tk:=S.toks) (Xk _ _)
 have hb4:=I0.base _ _ b4
 have pl:(pos.line:Int)=(posT 0).1:=by rw [hl1];rfl
 have pc:(pos.col:Int)=(posT 0).2:=by rw [hl2];rfl
 rcases h with h | h
 ·refine oAEAA (I0.tab TG h) fun hσ ps hP hok htp=> ?_
  have hps:ps= #[]:=htp
  subst hps
  refine kdv_makeTail (mg:=mg) hcl (by rw [hgl,TG.mA]) (I0.ns g1) hcode ((TG.hd 0 (by decide)).keeps fun b o e=>I0.base _ _ e) hP hok rfl hgP ⟨bm,ob,b1,b2,b3,hbP,hb4,b5,b6,b7⟩ fun c' ctv doc h' tk hx hge hlt hrec htb=> ?_
  refine k _ _ (I0.upd hσ hu (fun b o hb e=>Qv _ (hx b o hb e)) (Qv _ htb) ⟨hσ,by rw [TG.tok];exact ⟨_,rfl,by rw [Array.toList_append];exact TriplesOk_snoc _ _ _ _ hok,⟨c',by rw [pl,pc];rfl⟩⟩⟩)
 ·refine oAEAA (I0.tab TG h) fun hσ ps hP hok htp=> ?_
  obtain ⟨c',hps⟩:∃ c,ps= #[rawInt (posT 0).1,rawInt (posT 0).2,.ref c]:=htp
  subst hps
  have hit:codeAmong pos (#[rawInt (posT 0).1,rawInt (posT 0).2,Value.ref c']:Array Value).toList=some (.ref c'):=by
   refine (?_:(if ((posT 0).1==(pos.line:Int) && (posT 0).2==(pos.col:Int))=true then some (Value.ref c') else _)=_)
   rw [pl,pc];simp
  refine kdv_makeTailHit (mg:=mg) hcl (by rw [hgl,TG.mA]) (I0.ns g1) hcode ((TG.hd 0 (by decide)).keeps fun b o e=>I0.base _ _ e) hP hok hit ⟨bm,ob,b1,b2,b3,hbP,hb4,b5,b6,b7⟩ fun ctv doc h' tk hk hsz=> ?_
  exact k _ _ (I0.upd hσ hu (fun b o hb e=>Qv _ (hk b o e)) (Qv _ (hk _ _ hP)) ⟨hσ,by rw [TG.tok];exact ⟨_,rfl,hok,⟨c',rfl⟩⟩⟩)
end
section
variable {G:Gl} {f s:Int}
theorem sp1_ok (Wh:Whole G) (Z:Spec0 G f s) (TG:TabG G) {Ee:Ev}:StAt G theN Ee w_Pi (.spec 1 [14,0,1]):=by
 intro C W l st S fl l' st' Q X F R I h k
 walk_at "e G f s|Wh Z TG|Ee C W l st S fl l' st' Q X|F R I h k"
 simp only [Z.P] at h
 refine oA (Yq h) fun h0 hfl=> ?_
 subst hfl
 clear h
 have h:sp1 l st=some (l',st'):=h0
 walk_at "m m12 h h h1"
 walk_at "m m10 h s1 h h2"
 walk_at "m m8 h iv h h3"
 walk_at "m m8 h u h h4"
 walk_at "m m8 h kv h h5"
 walk_at "m m10 h s2 h h6"
 ((refine oA (i2 h) fun q0z q1z=> ?_;subst q0z q1z))
 refine (?_:wpAny _ _ (exec (stAt C.root [14,0,1]) C.env) _ _ _)
 rw [F.root]
 have hln:=F.ln
 have n1:theLn C.ln s_Pi_index=Str.ofString "index" :=by rw [hln];rfl
 have n2:theLn C.ln s_Pi_namemap=Str.ofString "namemap" :=by rw [hln];rfl
 have n3:theLn C.ln s_Pi_k=Str.ofString "k" :=by rw [hln];rfl
 obtain ⟨pr,bd,sc,ps,p1,p2,p3,p4,p5,e,d1,d2,d3,d4,d5⟩:∃ pr bd sc ps p1 p2 p3 p4 p5,stAt w_Pi.root [14,0,1]= .Assign [.Subscript (.Name (Str.ofString "namemap") p1) (.Name (Str.ofString "k") p2) p3] (.Lambda pr bd sc ps) p4∧pr.defaults=[.Name (Str.ofString "index") p5]∧pr.kw_defaults=[]∧
   (sc.names.all fun x=>x.2 != .free)=true∧ps.line=43∧ps.col=25:=⟨_,_,_,_,_,_,_,_,_,rfl,rfl,rfl,rfl,rfl,rfl⟩
 rw [e,←n2,←n3]
 refine wpAny_Assign_Subscript (kdv_lam (by rw [d1];rfl) d2 ?_) rfl
 rw [d1,←n1]
 refine kdv_all1 (I.load F.e h3 fun dv rd=>kdv_all0 ?_)
 have hcl:closureFor sc C.env=pure []:=closureFor_none fun x hx=>by
  have:=Zz d3 x hx;simpa using this
 have htab:st.h.get 0=some (.tab 0 0)∨st.h.get 0=some (.tab 0 1):=by
  rcases Bool.or_eq_true _ _ |>.mp h1 with q | q
  ·exact .inl (tabAt_spec q)
  ·exact .inr (tabAt_spec q)
 refine mk_lost I TG htab h2 (by rw [F.code];rfl) F.e.gl hcl d4 d5 rfl fun S' v I'=> ?_
 refine I'.load F.e h4 fun uv ru=>I'.load F.e h5 fun kc rk=> ?_
 exact Xu Wh.o I' R.u7 h6 ru rk (.junk v) fun S2 I2=>k rfl _ _ _ (.refl W) I2 trivial
end
theorem keepTake {α:Type} (a n:Int) (ha:0≤a):∀ (L:List α) (i:Nat),((i+L.length:Nat):Int)≤n→
  ((L.zipIdx i).filterMap fun x=>if ((decide (a≤(x.2:Int)) && decide ((x.2:Int) < n)) && ((x.2:Int) - a) % 1==0)=true then none else some x.1)=L.take (a.toNat - i)
 | [],i,_=>by simp
 | x::r,i,h=>by
  have ih:=keepTake a n ha r (i+1) (by simp at h ⊢;lia)
  rw [List.zipIdx_cons,List.filterMap_cons]
  have hin:((i:Nat):Int) < n:=by simp at h;lia
  by_cases q:a≤(i:Int)
  ·have e:((decide (a≤((x,i).2:Int)) && decide (((x,i).2:Int) < n)) && (((x,i).2:Int) - a) % 1==0)=true:=by simp [q,hin]
   rw [if_pos e]
   have:a.toNat - i=0:=Nat.sub_eq_zero_of_le (Int.toNat_le.mpr q)
   rw [this]
   have h2:a.toNat - (i+1)=0:=Nat.sub_eq_zero_of_le (Nat.le_succ_of_le (Int.toNat_le.mpr q))
   rw [h2] at ih
   simpa using ih
  ·have e:¬((decide (a≤((x,i).2:Int)) && decide (((x,i).2:Int) < n)) && (((x,i).2:Int) - a) % 1==0)=true:=by simp [q]
   rw [if_neg e]
   have:a.toNat - i=(a.toNat - (i+1))+1:=y0 (Int.lt_toNat.mpr (Int.not_le.mp q))
   rw [this,List.take_succ_cons]
   rw [ih]
section
variable {G:Gl} {f s:Int} {A:Around} {E:Value→Shared→Prop} {S:Shared}
theorem delItem_tail {l sl:Addr} {items:Array Value} {t:Tok} {Q:Unit→Shared→Prop} (hl:S.heap.IsList l items) (hs:S.heap.IsSliceOf sl (.int (-2) t) .none .none) (hsz:items.size≤4000)
  (h:∀ h' m o,S.heap.get? l=some o→h'.get? l=some { o with data:= .seq (items.toList.take (items.size - 2)).toArray m }→Heap.SameBut l S.heap h'→Q () { S with heap:=h' }):
  wpAny (model G.prog G.w) A (delItem (.ref l) (.ref sl)) Q E S:=by
 walk_at "e G A E S l sl items t Q|hl hs hsz h"
 refine oEAAE (id hl) fun o ho hc ne hd=> ?_
 refine oEAA (id hs) fun os hos hcs hds=> ?_
 have hTs:S.TypeIs (.ref sl) "slice" :=⟨os,hos,hcs⟩
 have sz:=Zv
 unfold delItem
 try with_reducible refine Qg ?_
 refine Qq (wpAny_sequenceKey hl.typeIs (by decide) ?_)
 refine Qq (Qb (name:=Str.ofString "__delitem__") hl.typeIs PySem.F.slot_list_delitem
  (Qf PySem.F.slot_list_delitem hl.typeIs PySem.F.entry_list_delitem ?_ (PySem.F.args_list_delitem_2 _ _)))
 refine (?_:wpAny _ _ (Builtin.List.listSubscript? (.ref sl) >>=_) _ _ S)
 refine Qq ?_
 refine Qq (wpAny_specialOf hTs slice_no_index ?_)
 refine Qw ?_
 refine Qq (wpAny_typeOf hTs ?_)
 rw [if_neg (by decide)]
 rw [listSliceParts_eq]
 refine Qq (Qq (wpAny_field hos hds (x:= .none) rfl (Qq (wpAny_listPart .none ?_))))
 rw [if_neg (by decide)]
 refine Qq (wpAny_field hos hds (x:= .int (-2) t) rfl (Qq (wpAny_listPart (.int (-2) t) ?_)))
 refine Qq (wpAny_field hos hds (x:= .none) rfl (Qq (wpAny_listPart .none (Qw ?_))))
 refine Qq (m:=Builtin.List.listItems (.ref l)) ?_
 refine Qq (wpAny_seqItems ho hd (Qw ?_))
 refine Qq (wpAny_of_eq (sliceIndices_raw (some (-2)) none none items.size (by simp)) ?_)
 refine Qq (wpAny_rule ?_)
 have b1:(sliceBounds (some (-2)) none none items.size).1=max 0 (min (-2+(items.size:Int)) items.size):=rfl
 have b2:(sliceBounds (some (-2)) none none items.size).2.1=(items.size:Int):=rfl
 have hk:=keepTake ((sliceBounds (some (-2)) none none items.size).1) ((sliceBounds (some (-2)) none none items.size).2.1) (by rw [b1];exact Int.le_max_left _ _) items.toList 0 (by rw [b2];simp)
 have hn:(sliceBounds (some (-2)) none none items.size).1.toNat - 0=items.size - 2:=by rw [b1];exact y2 _
 rw [hn] at hk
 refine Qq (wpAny_updateSeq (hz:=by lia) (n:=ne) ho hd ?_ ?_)
 ·obtain ⟨oc,od,odt,osl⟩:=o
  subst hd
  have key:∀ F:Array Value→Array Value,F items=(items.toList.take (items.size - 2)).toArray→Q () { S with heap:=S.heap.update l (Obj.mapSeq F) }:=fun F hF=>
   h _ (if (F items).size==items.size then ne else ne+1) _ ho (by rw [←hF];exact Wg _ ho rfl) (Wu ..)
  refine Qq (wpAny_letGo (Qw ⟨_,rfl,Qw (key _ (congrArg List.toArray hk))⟩))
 ·skip
  rw [List.size_toArray]
  refine Nat.le_trans (List.length_filterMap_le _ _) ?_
  simp;lia
theorem sp2_ok (Wh:Whole G) (Z:Spec0 G f s) {Ee:Ev}:StAt G theN Ee w_Gap (.spec 2 [3,0,5]):=by
 intro C W l st S fl l' st' Q X F R I h k
 walk_at "e G f s|Wh Z|Ee C W l st S fl l' st' Q X|F R I h k"
 simp only [Z.P] at h
 refine oA (Yq h) fun h0 hfl=> ?_
 subst hfl
 clear h
 have h:sp2 l st=some (l',st'):=h0
 walk_at "m m30 h n h h1"
 walk_at "m m73 h xs h h2"
 walk_at "m m12 h h hsm"
 have hsm:=Zf hsm
 walk_at "m m13 h ys h h3"
 walk_at "m m10 h s2 h h4"
 ((refine oA (i2 h) fun q0z q1z=> ?_;subst q0z q1z))
 rw [takeN_eq,Zd] at h3
 (obtain rfl:=Qz h3)
 refine (?_:wpAny _ _ (exec (stAt C.root [3,0,5]) C.env) _ _ _)
 rw [F.root]
 have n1:theLn C.ln s_Gap_syms=Str.ofString "syms" :=by rw [F.ln];rfl
 refine (?_:wpAny _ _ (exec (.Delete [.Subscript (.Name (Str.ofString "syms") _) (.Slice (some (.UnaryOp .USub (.Constant (.int 2) _ _) _)) none none _) _] _) _) _ _ _)
 rw [←n1]
 refine wpAny_Delete (wpAny_deleteEach_cons (wpAny_delete_Subscript (I.load F.e h1 fun lv rl=> ?_)))
 refine vRef rl fun ad ha=> ?_
 refine oEEAA (I.list h2 ha) fun vs m hg hr hl=> ?_
 have hlen:=hr.length
 refine wpAny_Slice ?_
 refine UnaryOp_ (Qn (PyProof.Rows.neg_int ?_))
 refine Qw (Qw ?_)
 have hl2:(S.heap.push { cls:= .type "slice",data:= .fields #[.int (-2) (S.toks+1),.none,.none] }).IsList ad vs.toArray:=hl.push _
 refine delItem_tail (S:={ S with heap:=S.heap.push { cls:= .type "slice",data:= .fields #[.int (-2) (S.toks+1),.none,.none] },toks:=S.toks+1+1 }) hl2 (Heap.IsSliceOf.new ..) (by simp;lia) fun h' m' o' ho' hg' sb=> ?_
 have ho2:(S.heap.push { cls:= .type "slice",data:= .fields #[.int (-2) (S.toks+1),.none,.none] }).get? ad=some { cls:= .type "list",data:= .seq vs.toArray m }:=Qv _ hg
 rw [ho2] at ho';(obtain rfl:=Qz ho')
 have I1:Inv G C W l.vs st { S with heap:=S.heap.push { cls:= .type "slice",data:= .fields #[.int (-2) (S.toks+1),.none,.none] },toks:=S.toks+1+1 }:=I.grow (Xk _ _)
 refine wpAny_deleteEach_nil (k rfl _ _ _ (.refl W) (I1.upd (tk:=S.toks+1+1) ha h4 (fun b o hb e=>(sb.2 b hb).trans e) hg' ⟨vs.take (vs.length - 2),m',?_,?_⟩) trivial)
 ·simp
 ·rw [hlen];exact hr.take _
end
section
variable {G:Gl} {A:Around} {E:Value→Shared→Prop} {S:Shared}
theorem getItem_tuple_out {t:Addr} {items:Array Value} {k:Nat} {u:Tok} {Q:Value→Shared→Prop} (hh:A.handled=none) (ht:IsTup S.heap t items) (hk:items.size≤k) (hhi:k < 2 ^ 62)
  (h:∀ h' tk e,Heap.NewExc S.heap h' e "IndexError" →E (.ref e) { S with heap:=h',toks:=tk }):wpAny (model G.prog G.w) A (getItem (.ref t) (.int (k:Int) u)) Q E S:=by
 walk_at "e G A E S t items k u Q|hh ht hk hhi h"
 have hj:seqIndex? (k:Int) items.size=none:=by
  unfold seqIndex?
  have:¬((k:Int) < 0):=by lia
  simp only [this,if_false]
  rw [if_neg]
  lia
 unfold getItem
 try with_reducible refine Qg ?_
 first | refine Qq (Qw ?_) | skip
 refine Qq (wpAny_sequenceKey ht.typeIs (by decide) ?_)
 refine Qq (Qb (name:=Str.ofString "__getitem__") ht.typeIs slot_tuple_getitem
  (Qf slot_tuple_getitem ht.typeIs entry_tuple_getitem ?_ (args_tuple_getitem _ _)))
 refine (?_:wpAny _ _ (Builtin.Tuple.tupleItemsOf (.ref t) >>=_) _ _ S)
 refine Qq (tupleItemsOf_ ht ?_)
 refine Qq (wpAny_typeOf (typeIs_int S (k:Int) u) ?_)
 rw [if_neg (by decide)]
 refine Qq (wpAny_specialOf (T:= "int") (typeIs_int S (k:Int) u) int_index ?_)
 rw [if_neg (by simp)]
 refine Qq (wpAny_of_eq (a:=(k:Int)) rfl ?_)
 rw [if_neg (by simp only [Bool.or_eq_true,decide_eq_true_eq];lia)]
 simp only [hj,Option.bind_none]
 refine Qq (wpAny_rule ?_)
 exact_raiseError plainExc_IndexError hh h
theorem note_first {C:Cx} {W:Wd} {l:Tr AV} {s:St} (I:Inv G C W l s S) (hh:Hand C) (hA:A.frames=C.A.frames) {h1:Heap} {tk:Nat} {e:Addr} {cls:String} (hx:Heap.NewExc S.heap h1 e cls) {Q:Unit→Shared→Prop} {X:Value→Shared→Prop}
  (k:∀ h2 T oe vs ot ts,Inv G C W l s { S with heap:=h2,toks:=tk }→S.heap.get? e=none→S.heap.get? T=none→T≠e→h2.get? e=some oe→oe.cls= .type cls→oe.data= .fields vs→vs[1]? =some (.ref T)→h2.get? T=some ot→ot.data= .fields ts→3 < ts.size→
   Q () { S with heap:=h2,toks:=tk }):
  wpAny (model G.prog G.w) A (noteFrame (.ref e) C.env) (fun uu s2=>wpAny (model G.prog G.w) A (setFlight (.ref e) none) Q X s2) X { S with heap:=h1,toks:=tk }:=by
 walk_at "e G A S C W l s|I hh hA|h1 tk e cls|hx|Q X|k"
 refine oAEAAAA hh fun h0 outer hfr hf hkind hout uu=> ?_
 refine oEEAA (hx.there) fun ob tq he hcls hd=> ?_
 let fs:=(C.env::outer).filterMap (·.frame)
 let base:=hideAll S.heap fs
 have hbase:∀ b o,base.get? b=some o→S.heap.get? b=some o∧b ∉ fs:=fun b o q=>⟨of_hideAll _ q,fun hm=>by rw [hideAll_none fs hm] at q;exact nos q⟩
 have hfs:∀ b∈fs,b=C.L∨∃ o es n,(b,o)∈C.keeps∧o.data= .dict es n:=by
  intro b hb
  refine oEA (List.mem_filterMap.mp hb) fun ev hev q=> ?_
  rcases Zq hev with rfl | hev
  ·rw [hf] at q;refine e1 q ?_;exact .inl rfl
  ·refine oAEEEEAA (hout ev hev) fun uu a o es n q1 q2 q3=> ?_
   rw [q1] at q;refine e1 q ?_;exact .inr ⟨o,es,n,q2,q3⟩
 have there:∀ b∈fs,∃ o es n,S.heap.get? b=some o∧o.data= .dict es n:=by
  intro b hb
  rcases hfs b hb with rfl | ⟨o,es,n,q1,q2⟩
  ·obtain ⟨m,⟨o,es,ep,q1,q2,_⟩,_⟩:=I.loc;exact ⟨o,es,ep,q1,q2⟩
  ·refine oEA ((I.keep _ q1).1.there) fun o' h1 h2=> ?_;exact ⟨o',es,n,h1,h2.trans q2⟩
 have FF:∀ l',(∀ ev∈l',ev∈C.env::outer)→Heap.FunFrames h1 base l':=by
  intro l' hl'
  induction l' with
  | nil=>trivial
  | cons ev r ih=>
   have hev:=hl' ev (Qk ..)
   have hk':ev.scope.kind= .function∧∃ a,ev.frame=some a:=by
    rcases Zq hev with rfl | hev
    ·exact ⟨hkind,_,hf⟩
    ·obtain ⟨q1,a,_,_,_,q2,_⟩:=hout ev hev;exact ⟨q1,a,q2⟩
   refine oAE hk' fun q1 a q2=> ?_
   have hm:a∈fs:=List.mem_filterMap.mpr ⟨ev,hev,q2⟩
   refine oEEEA (there a hm) fun o es n q3 q4=> ?_
   exact ⟨by rw [q1];decide,⟨a,o,q2,hideAll_none fs hm,hx.keeps _ _ q3,fun vs q=>by rw [q4] at q;cases q⟩,ih fun y hy=>hl' y (Qj _ hy)⟩
 have hen:base.get? e=none:=by
  cases q:base.get? e with
  | none=>rfl
  | some o=>have:=(hbase e o q).1;rw [hx.new] at this;exact nos this
 unfold noteFrame
 simp only [hf]
 refine Qq (wpAny_field he hd (x:= .none) rfl ?_)
 rw [if_neg (by decide)]
 refine wpAny_newEntry (base:=base) (hA.trans hfr) (FF _ fun uu h=>h) hf he (fun b o q=>hx.keeps _ _ (hbase b o q).1) hen hd (by simp) fun h2 hL=> ?_
 obtain ⟨k1,k2,⟨oe,vs,T,oT,ts,t1,t2,t3,t4,t5,t6,t7,t8,t9⟩,k4⟩:=hL
 have keep:∀ b o,S.heap.get? b=some o→b ∉ fs→h2.get? b=some o:=fun b o q hn=>k1 b o (hideAll_get fs q hn)
 have hT:S.heap.get? T=none:=by
  cases q:S.heap.get? T with
  | none=>rfl
  | some o=>
   exfalso
   by_cases hm:T∈fs
   ·refine oEEEA (there T hm) fun o' es n q3 q4=> ?_
    refine oE (k4 T o' (hx.keeps _ _ q3) (fun vs q=>by rw [q4] at q;cases q)) fun sl q5=> ?_
    rw [t7] at q5;cases q5
    rw [show ({ o' with slots:=sl }:Obj).data=o'.data from rfl,q4] at t8;cases t8
   ·have:=hideAll_get fs q hm
    rw [show (hideAll S.heap fs).get? T=base.get? T from rfl,t5] at this;exact nos this
 have frame:∀ b∈fs,∀ o,S.heap.get? b=some o→∃ sl,h2.get? b=some { o with slots:=sl }:=by
  intro b hb o q
  refine oEEEA (there b hb) fun o' es n q3 q4=> ?_
  rw [q] at q3;(obtain rfl:=Qz q3)
  exact k4 b o (hx.keeps _ _ q) (fun vs q=>by rw [q4] at q;cases q)
 have notσ:∀ a∈W.σ,a ∉ fs:=fun a ha hm=>by
  rcases hfs a hm with rfl | ⟨o,_,_,q,_⟩
  ·exact (I.fresh _ ha).2.1 rfl
  ·exact (I.keep _ q).2.1 ha
 have I2:Inv G C W l s { S with heap:=h2,toks:=tk }:=by
  obtain ⟨m,⟨oL,es,ep,l1,l2,l3⟩,hl⟩:=I.loc
  refine ⟨fun b o q=>keep b o (I.base b o q) fun hm=> ?_,fun p hp=>⟨keep _ _ (I.pin p hp).1 fun hm=> ?_,(I.pin p hp).2⟩,fun p hp=>⟨?_,(I.keep p hp).2⟩,I.pk,I.kb,I.kn,fun n o q=> ?_,I.len,I.nodup,fun a ha=> ?_,⟨m,?_,hl⟩,I.locB,I.gens,I.drawn,I.os⟩
  ·rcases hfs b hm with rfl | ⟨o',_,_,q',_⟩
   ·rw [I.locB] at q;exact nos q
   ·rw [I.kb _ q'] at q;exact nos q
  ·rcases hfs _ hm with e' | ⟨o',_,_,q',_⟩
   ·exact (I.pin p hp).2.2 e'
   ·exact I.pk p hp _ q' rfl
  ·by_cases hm:p.1∈fs
   ·refine oEEEA (there p.1 hm) fun o' es' n q3 q4=> ?_
    refine oE (frame p.1 hm o' q3) fun sl q5=> ?_
    rcases (I.keep p hp).1 with q6 | ⟨es2,n2,sl2,q6,q7⟩
    ·rw [q3] at q6;cases q6
     exact .inr ⟨es',n,sl,q4,q5⟩
    ·rw [q3] at q7;cases q7
     exact .inr ⟨es2,n2,sl,q6,q5⟩
   ·exact (I.keep p hp).1.map fun o q=>keep _ o q hm
  ·refine oEEAA (I.objs n o q) fun a co h1' h2' h3'=> ?_
   exact ⟨a,co,h1',keep _ _ h2' (notσ a (Qx h1')),h3'⟩
  ·refine oAAE (I.fresh a ha) fun q1 q2 o q3=> ?_;exact ⟨q1,q2,o,keep _ _ q3 (notσ a ha)⟩
  ·refine oE (frame C.L (List.mem_filterMap.mpr ⟨C.env,Qk ..,hf⟩) oL l1) fun sl q5=> ?_
   exact ⟨_,es,ep,q5,l2,l3⟩
 exact k h2 T oe vs oT ts I2 hx.new hT t6 t1 (t2.trans hcls) t3 t4 t7 t8 (Array.getElem?_eq_some_iff.mp t9).1
structure Caught (G:Gl) (C:Cx) (W:Wd) (l:Tr AV) (s:St) (S:Shared) (S0:Shared) (e T:Addr) (cls:String):Prop where
 inv:Inv G C W l s S
 ne:S0.heap.get? e=none
 nT:S0.heap.get? T=none
 Te:T≠e
 oe:∃ oe vs,S.heap.get? e=some oe∧oe.cls= .type cls∧oe.data= .fields vs∧vs[1]? =some (.ref T)
 oT:∃ ot ts,S.heap.get? T=some ot∧ot.data= .fields ts∧3 < ts.size
theorem flight_again {C:Cx} {W:Wd} {l:Tr AV} {s:St} {S0:Shared} {e T:Addr} {cls:String} (I0:Inv G C W l s S0) (K:Caught G C W l s S S0 e T cls) {Q:Unit→Shared→Prop} {X:Value→Shared→Prop}
  (k:∀ h',Inv G C W l s { S with heap:=h' }→Q () { S with heap:=h' }):wpAny (model G.prog G.w) A (setFlight (.ref e) none) Q X S:=by
 refine Yg (K.oe) fun oe vs e1 e2 e3 e4=> ?_
 refine oEEAA (K.oT) fun ot ts t1 t2 t3=> ?_
 refine wpAny_setFlight_none e1 e3 e4 t1 t2 t3 (k _ ?_)
 have ap:=I0.apart K.nT
 exact (K.inv.open1 ap t1).turnEnd (tk:=S.toks) fun b o hb q=>(Heap.get?_update_other _ _ (by simp at hb;exact Ne.symm hb)).trans q
end
theorem exc_KeyError:isSubtype (.type "KeyError") (.type "BaseException")=pure true:=by rw [isSubtype_type];kernel_rfl
theorem nt_KeyError:isSubtype (.type ((Manifest.find? "KeyError").elim "type" fun x=>x.metatype)) (.type "tuple")=pure false:=by rw [isSubtype_type];kernel_rfl
theorem self_KeyError:isSubtype (.type "KeyError") (.type "KeyError")=pure true:=by rw [isSubtype_type];kernel_rfl
theorem exc_IndexError:isSubtype (.type "IndexError") (.type "BaseException")=pure true:=by rw [isSubtype_type];kernel_rfl
theorem nt_IndexError:isSubtype (.type ((Manifest.find? "IndexError").elim "type" fun x=>x.metatype)) (.type "tuple")=pure false:=by rw [isSubtype_type];kernel_rfl
theorem self_IndexError':isSubtype (.type "IndexError") (.type "IndexError")=pure true:=by rw [isSubtype_type];kernel_rfl
theorem key_index:isSubtype (.type "KeyError") (.type "IndexError")=pure false:=by rw [isSubtype_type];kernel_rfl
theorem index_key:isSubtype (.type "IndexError") (.type "KeyError")=pure false:=by rw [isSubtype_type];kernel_rfl
section
variable {G:Gl} {C:Cx} {W:Wd} {l:Tr AV} {s:St} {S:Shared} {A:Around} {E:Value→Shared→Prop}
theorem getItem_D_missing {a:Addr} {es:List (AV × AV)} {ep:Nat} {ds:List DictEntry} {t:List Nat} {tk:Tok} {Q:Value→Shared→Prop} (hh:A.handled=none) (hsys:(a==sysModules)=false) (D:DictAtI G W S a es ep ds) (hstr:∀ e∈es,∃ t,e.1=AV.str t)
  (hf:find (.str t) es=some none) (h:∀ h' tk e,Heap.NewExc S.heap h' e "KeyError" →E (.ref e) { S with heap:=h',toks:=tk }):wpAny (model G.prog G.w) A (getItem (.ref a) (.str (mkS t) tk)) Q E S:=by
 refine oEAA (dictAt_str D hstr) fun kvs hat hvr hk=> ?_
 refine oA (find_spec hf) fun uu hno=> ?_
 have hv:valueAt kvs (mkS t)=none:=by
  unfold valueAt
  cases q:kvs.find? fun kv=>kv.1=mkS t with
  | none=>rfl
  | some p=>
   exfalso
   have hp:=List.find?_some q
   have hm:=List.mem_of_find?_eq_some q
   have e1:AV.str p.1.cps.toList∈es.map (·.1):=by rw [←hk];exact List.mem_map.mpr ⟨p,hm,rfl⟩
   have e2:p.1=mkS t:=by simpa using hp
   rw [e2] at e1
   refine oEA (List.mem_map.mp e1) fun e' he' e3=> ?_
   refine oE (List.mem_iff_getElem?.mp he') fun j hj=> ?_
   refine hno j e'.2 (hj.trans ?_)
   have:e'.1= .str t:=by rw [e3];simp [mkS]
   rw [←this]
 exact wpAny_getItem_missing_of (knd:=PySem.strKind G.prog G.w) (by show (mkS t==mkS t)=true;simp) hsys hh hat.dictOf.mapOf hv fun h' e hx=>h h' _ e hx
theorem append_call (MN:MNames G theN) (I:Inv G C W l s S) {n:Nat} {a:Addr} {xs:List AV} {v:AV} {vc:Value} {s':St} (e:s.h.get n=some (.list xs)) (ha:W.σ[n]? =some a) (h:lstM theN n theN.append xs [v] s=some (.non,s')) (hv:VRel G W v vc) {Q:Value→Shared→Prop}
  (k:∀ S',Inv G C W l s' S'→Q .none S'):wpAny (model G.prog G.w) A (call (.builtin "list.append") [.ref a,vc]) Q E S:=by
 refine oEAA (lstM_sound (A:=A) (E:=E) MN.l I e ha h (.cons hv .nil)) fun id j1 j2 j3=> ?_
 have:=slot_unique (show Slot "list" (G.nm theN.append) "list.append" from (MN.l (theN.append,"append") (by simp)) ▸ PySem.F.slot_list_append) j2
 subst this
 exact j3 fun S' rc I' r=>by refine vNon r ?_;exact k S' I'
theorem Inv.nx_none (I:Inv G C W l s S) {n:Nat} (hn:s.h.get n≠none) (q:n=s.nx):False:=by
 cases h:s.h.get n with
 | none=>exact hn h
 | some o=>
  refine oEEA (I.objs n o h) fun a co h1 uu=> ?_
  have:=(Wn h1).1
  rw [I.len,q] at this
  exact Nat.lt_irrefl _ this
theorem load_attr {g:Nat→Bool} {ll:Lo} (Wh:Whole G) (F:Env0 G C g) (I:Inv G C W ll.vs s S) {x k:Nat} {v r:AV} {p p':Pos} {Q:Value→Shared→Prop} (hl:ll.get x=some v) (ha:getA G.P v k s=some r) (hk:G.okA k=true)
  (kk:∀ tk rc,VRel G W r rc→Q rc { S with toks:=tk }):wpAny (model G.prog G.w) A (eval (.Attribute (.Name (theLn C.ln x) p) (G.nm k) p') C.env) Q E S:=by
 rw [arm_eval_Attribute]
 refine Qq (I.load F hl fun vc rv=>Qq (wpAny_standAt (Qq (Qg (Vx Wh.o Wh.cls I ha hk rv fun tk rc r2=>Qq (wpAny_letTemporaryGo (Qw (kk tk rc r2))))))))
end
theorem getA_keep {P:Pr} {v r:AV} {k:Nat} {st st':St} {o:AO} {x:AV} (h:st.new o=some (x,st')) (ha:getA P v k st=some r) (hn:∀ n,st.h.get n≠none→n≠st.nx):getA P v k st'=some r:=by
 walk_at "e P v r k st st' o x|h ha hn"
 unfold St.new at h
 walk_at "m m48 h h1 h e1"
 rw [Zk] at h
 refine e2 h ?_
 have old:∀ n o,st.h.get n=some o→h1.get n=some o:=fun n o e=>by
  rw [Tr.set_get e1,if_neg (hn n (by rw [e];simp))];exact e
 walk_at "m m174 ha n ha qv"
 subst qv
 walk_at "m m26 ha c d ha q1"
 walk_at "m m22 ha es ha q2"
 exact gM (old _ _ q1) (gN (old _ _ q2) ha)
section
variable {G:Gl} {f s:Int}
theorem zOr {β:Type} {r:β} {P:Prop} {x:Option (Option AV)} {A:Nat→Option β} {B:Option β} (h:(match x with | some (some (.ref n))=>A n | some none=>B | _=>none)=some r) (k1:∀ n,A n=some r→x=some (some (.ref n))→P) (k2:B=some r→x=some none→P):P:=by
 rcases x with _ | _ | v
 ·exact nos h
 ·exact k2 h rfl
 ·cases v <;> first | exact nos h | exact k1 _ h rfl
theorem sp4_ok (Wh:Whole G) (MN:MNames G theN) (Z:Spec0 G f s) {Ee:Ev}:StAt G theN Ee w_Gap (.spec 4 [12]):=by
 intro C W l st S fl l' st' Q X F R I h k
 walk_at "e G f s|Wh MN Z|Ee C W l st S fl l' st' Q X|F R I h k"
 simp only [Z.P] at h
 refine oA (Yq h) fun h0 hfl=> ?_
 subst hfl
 clear h
 have h:sp4 Pz l st=some (l',st'):=h0
 have hga:∀ v a s,getA Pz v a s=getA G.P v a s:=fun v a s=>by rw [Z.P];rfl
 unfold sp4 at h
 have n1:theLn C.ln s_Gap_self=Str.ofString "self" :=by rw [F.ln];rfl
 have n2:theLn C.ln s_Gap_prodname=Str.ofString "prodname" :=by rw [F.ln];rfl
 have n3:theLn C.ln s_Gap_p=Str.ofString "p" :=by rw [F.ln];rfl
 have n4:G.nm n_Prodnames=Str.ofString "Prodnames" :=by rw [Z.nm];rfl
 have n5:G.nm theN.append=Str.ofString "append" :=MN.l (theN.append,"append") (by simp)
 have n6:G.nm theN.keyError=Str.ofString "KeyError" :=by rw [Z.nm];rfl
 have ok1:G.okA n_Prodnames=true:=Wh.okA _ (by decide+kernel)
 walk_at "m m8 h g h h1"
 walk_at "m m30 h d h h2"
 rw [hga] at h2
 walk_at "m m19 h es ep h h3"
 walk_at "m m8 h kk h h4"
 walk_at "m m8 h pv h h5"
 show wpAny _ _ (exec (stAt C.root [12]) C.env) _ _ _
 rw [F.root]
 show wpAny _ _ (exec (.Try [.Expr (.Call (.Attribute (.Subscript (.Attribute (.Name (Str.ofString "self") _) (Str.ofString "Prodnames") _) (.Name (Str.ofString "prodname") _) _) (Str.ofString "append") _) [.Name (Str.ofString "p") _] [] _) _]
  [.ExceptHandler (some (.Name (Str.ofString "KeyError") _)) none [.Assign [.Subscript (.Attribute (.Name (Str.ofString "self") _) (Str.ofString "Prodnames") _) (.Name (Str.ofString "prodname") _) _] (.List [.Name (Str.ofString "p") _] _) _] _] [] [] _) _) _ _ _
 rw [←n1,←n2,←n3,←n4,←n5,←n6]
 refine wpAny_Try_except (Wq (wpAny_Expr_any ?_ (by unfold interactive;simp [F.e.fn]) rfl))
 rw [arm_eval_Call]
 refine Qq (Subscript_ (load_attr Wh F.e I h1 h2 ok1 fun tk dc rd=>I.toks.load F.e h4 fun kc rk=> ?_))
 have I1:Inv G C W l.vs st { S with toks:=tk }:=I.toks
 refine zOr h ?_ ?_ <;> clear h
 ·intro n h h6
  walk_at "m m73 h xs h h7"
  walk_at "m m12 h h hsm"
  walk_at "m m13 h xs' h h8"
  walk_at "m m10 h s2 h h9"
  cases h
  have hM:lstM theN n theN.append xs [pv] st=some (.non,st'):=gO hsm (by rw [show Nat.beq theN.append theN.append=true from rfl];exact gI h8 (gZ h9 rfl))
  have hget:getI (.ref d) kk st=some (.ref n):=by simp only [getI,h3,h6]
  refine Yv I1 R.u7 hget rd rk fun tk2 rc rr=> ?_
  have I2:Inv G C W l.vs st { S with toks:=tk2 }:=I.toks
  refine Qq (wpAny_standAt ?_)
  refine meth_head (o:= .sub (.attr (.loc s_Gap_self _) n_Prodnames _) (.loc s_Gap_prodname _) _) (args:=[.loc s_Gap_p _]) rfl (by simp) fun pl=> ?_
  refine vRef rr fun al hal=> ?_
  refine oEEAA (I2.list h7 hal) fun us q hg hr hl=> ?_
  refine Yk hl.typeIs PySem.F.plainAttrs_list (n5 ▸ PySem.F.slot_list_append) PySem.F.type_list_append (fun b hb=>by cases hb;exact ⟨_,hg,rfl⟩) ?_
  refine Calls.callWith_builtin (Vw _ _ _ _) ?_
  rw [Yy]
  refine Calls.evalArgs_plain (Wy ?_)
  refine I2.load F.e h5 fun pc rp=>Calls.spliced_nil ?_
  refine append_call MN I2 h7 hal hM rp fun S' I'=> ?_
  exact Ww (Ww (k rfl _ _ _ (.refl W) I' trivial))
 ·intro h h6
  walk_at "m m13 h vs h h7"
  refine oA (vals_eq h7) fun uu hstr=> ?_
  walk_at "M m72 h t h"
  walk_at "m m2 h lv s2 h h8"
  walk_at "m m10 h s3 h h9"
  ((refine oA (i2 h) fun q0z q1z=> ?_;subst q0z q1z))
  refine vRef rd fun ad hd=> ?_
  refine vStr rk fun tkk=> ?_
  refine oE (I1.dict h3 hd) fun ds D=> ?_
  have hsys:=I1.notSys Wh.o hd
  refine Vn D.typeIs slot_dict_getitem.lookup (getItem_D_missing F.e.hand.1 hsys D hstr h6 fun h' tk3 e hx=> ?_)
  refine note_first I1 F.e.hand rfl hx fun h2' T oe vs' ot ts I2 z1 z2 z3 z4 z5 z6 z7 z8 z9 z10=> ?_
  refine wpAny_handleBy_builtin exc_KeyError nt_KeyError self_KeyError ?_
  refine I2.bload F.e Wh.names (by decide) (v:= .type "KeyError") (Qx (i:=9) rfl) ⟨rfl,⟨oe,z4,z5⟩,?_⟩
  rw [if_pos rfl]
  refine flight_again I1 ⟨I2,z1,z2,z3,⟨oe,vs',z4,z5,z6,z7⟩,⟨ot,ts,z8,z9,z10⟩⟩ fun h3' I3=> ?_
  refine Wq (wpAny_Assign_Subscript (PyProof.Rows.List_ ?_) rfl)
  refine Wy (I3.load F.e h5 fun pc rp=>Calls.spliced_nil ?_)
  refine wpAny_newList ?_ (by have:=Zv;simp;lia)
  refine oAA (I3.fresh' (co:={ cls:= .type "list",data:= .seq [pc].toArray }) h8 ⟨[pc],0,rfl,.cons rp .nil⟩ rfl) fun le I4 r4=> ?_
  refine load_attr Wh F.e I4 h1 (getA_keep h8 h2 fun n hn q=>I3.nx_none hn q) ok1 fun tk4 dc4 rd4=>I4.toks.load F.e h4 fun kc4 rk4=> ?_
  refine Xu (A:=C.A.mark (some (.ref e))) Wh.o (I4.toks (tk:=tk4)) R.u7 h9 rd4 rk4 r4 fun S5 I5=> ?_
  exact Ww (k rfl _ _ _ le I5 trivial)
end
section
variable {G:Gl} {f s:Int}
theorem after_handler (Wh:Whole G) (Z:Spec0 G f s) {C:Cx} {W:Wd} {l:Lo} {st st' s1:St} {S0 S:Shared} {e T:Addr} {X:String} {b1 b2:Bool} {xv lv:AV} {p1 p2 p3 p4 p5 p6 p7 p8:Pos} {k0:Nat} {Q:Flow→Shared→Prop} {E:Value→Shared→Prop}
  (hX1:isSubtype (.type X) (.type "IndexError")=pure b1) (hX2:isSubtype (.type X) (.type "KeyError")=pure b2) (hb:(b1 || b2)=true)
  (F:Env1 G C w_Gbl) (I0:Inv G C W l.vs st S0) (K:Caught G C W l.vs st S S0 e T X) (h1:l.get s_Gbl_lri=some xv) (h2:st.new (.list [])=some (lv,s1)) (h3:setA Pz xv n_lr_after lv s1=some st') (k:∀ W' S',W.le W'→Inv G C W' l.vs st' S'→Q .next S'):
  wpAny (model G.prog G.w) C.A (handleBy (.ref e) C.env [.ExceptHandler (some (.Tuple [.Name (G.nm theN.indexError) p1,.Name (G.nm theN.keyError) p2] k0 p3)) none [.Assign [.Attribute (.Name (theLn C.ln s_Gbl_lri) p4) (G.nm n_lr_after) p5] (.List [] p6) p7] p8]) Q E S:=by
 walk_at "e G f s|Wh Z|C W l st st' s1 S0 S e T X b1 b2 xv lv p1 p2 p3 p4 p5 p6 p7 p8 k0 Q E|hX1 hX2 hb F I0 K h1 h2 h3 k"
 have hsa:∀ v a x s,setA Pz v a x s=setA G.P v a x s:=fun v a x s=>by rw [Z.P];rfl
 refine Yg (K.oe) fun oe vs e1 e2 e3 e4=> ?_
 refine oEEAA (K.oT) fun ot ts t1 t2 t3=> ?_
 refine wpAny_handleBy_tup2 exc_IndexError nt_IndexError exc_KeyError nt_KeyError hX1 hX2 ?_
 refine wpAny_Tuple ?_
 refine Wy (K.inv.bload F.e Wh.names (by decide) (v:= .type "IndexError") (Qx (i:=10) rfl) (Wy (K.inv.bload F.e Wh.names (by decide) (v:= .type "KeyError") (Qx (i:=9) rfl) (Calls.spliced_nil ⟨by have:=Zv;simp;lia,?_⟩))))
 have hT:(S.heap.push { cls:= .type "tuple",data:= .seq [Value.type "IndexError",.type "KeyError"].toArray }).get? S.heap.objs.size=some { cls:= .type "tuple",data:= .seq [Value.type "IndexError",.type "KeyError"].toArray }:=Xd _ rfl
 have he:(S.heap.push { cls:= .type "tuple",data:= .seq [Value.type "IndexError",.type "KeyError"].toArray }).get? e=some oe:=Qv _ e1
 refine ⟨_,rfl,⟨_,hT,rfl,0,rfl⟩,⟨oe,he,e2⟩,?_⟩
 rw [hb,if_pos rfl]
 refine flight_again I0 (S:={ S with heap:=S.heap.push { cls:= .type "tuple",data:= .seq [Value.type "IndexError",.type "KeyError"].toArray } }) ⟨K.inv.grow (tk:=S.toks) (Xk _ _),K.ne,K.nT,K.Te,⟨oe,vs,he,e2,e3,e4⟩,⟨ot,ts,Qv _ t1,t2,t3⟩⟩ fun h' I3=> ?_
 refine Wq (plainObj_wpAny_Assign_Attribute (PyProof.Rows.List_ ?_) rfl)
 refine Calls.spliced_nil (wpAny_newList ?_ (by have:=Zv;simp))
 refine oAA (I3.fresh' (co:={ cls:= .type "list",data:= .seq ([]:List Value).toArray }) h2 ⟨[],0,rfl,.nil⟩ rfl) fun le I4 r4=> ?_
 refine I4.load F.e h1 fun xc rx=> ?_
 rw [hsa] at h3
 exact Vy Wh.o Wh.cls I4 h3 (Wh.okA _ (by decide+kernel)) rx r4 fun S' I'=>Ww (k _ _ le I')
set_option tactic.hygienic true in
theorem sp5_ok (Wh:Whole G) (Z:Spec0 G f s) {Ee:Ev}:StAt G theN Ee w_Gbl (.spec 5 [0,0,3,0,0,1,1]):=by
 intro C W l st S fl l' st' Q X F R I h k
 walk_at "e G f s|Wh Z|Ee C W l st S fl l' st' Q X|F R I h k"
 simp only [Z.P] at h
 refine oA (Yq h) fun h0 hfl=> ?_
 subst hfl
 clear h
 have h:sp5 Pz l st=some (l',st'):=h0
 have hga:∀ v a s,getA Pz v a s=getA G.P v a s:=fun v a s=>by rw [Z.P];rfl
 have hsa:∀ v a x s,setA Pz v a x s=setA G.P v a x s:=fun v a x s=>by rw [Z.P];rfl
 have n1:theLn C.ln s_Gbl_self=Str.ofString "self" :=by rw [F.ln];rfl
 have n2:theLn C.ln s_Gbl_lri=Str.ofString "lri" :=by rw [F.ln];rfl
 have n3:theLn C.ln s_Gbl_i=Str.ofString "i" :=by rw [F.ln];rfl
 have n4:G.nm n_Prodnames=Str.ofString "Prodnames" :=by rw [Z.nm];rfl
 have n5:G.nm n_lr_after=Str.ofString "lr_after" :=by rw [Z.nm];rfl
 have n6:G.nm n_prod=Str.ofString "prod" :=by rw [Z.nm];rfl
 have n7:G.nm theN.keyError=Str.ofString "KeyError" :=by rw [Z.nm];rfl
 have n8:G.nm theN.indexError=Str.ofString "IndexError" :=by rw [Z.nm];rfl
 have ok1:G.okA n_Prodnames=true:=Wh.okA _ (by decide+kernel)
 have ok2:G.okA n_prod=true:=Wh.okA _ (by decide+kernel)
 have ok3:G.okA n_lr_after=true:=Wh.okA _ (by decide+kernel)
 walk_at "m m8 h g h h1"
 walk_at "m m30 h d h h2"
 rw [hga] at h2
 walk_at "m m19 h es ep h h3"
 walk_at "m m8 h xv h h4"
 walk_at "m m51 h ps h h5"
 rw [hga] at h5
 walk_at "m m24 h i h h6"
 refine (?_:wpAny _ _ (exec (stAt C.root [0,0,3,0,0,1,1]) C.env) _ _ _)
 rw [F.root]
 refine (?_:wpAny _ _ (exec (.Try [.Assign [.Attribute (.Name (Str.ofString "lri") _) (Str.ofString "lr_after") _] (.Subscript (.Attribute (.Name (Str.ofString "self") _) (Str.ofString "Prodnames") _) (.Subscript (.Attribute (.Name (Str.ofString "lri") _) (Str.ofString "prod") _) (.BinOp (.Name (Str.ofString "i") _) .Add (.Constant (.int 1) _ _) _) _) _) _]
  [.ExceptHandler (some (.Tuple [.Name (Str.ofString "IndexError") _,.Name (Str.ofString "KeyError") _] _ _)) none [.Assign [.Attribute (.Name (Str.ofString "lri") _) (Str.ofString "lr_after") _] (.List [] _) _] _] [] [] _) _) _ _ _)
 rw [←n1,←n2,←n3,←n4,←n5,←n6,←n7,←n8]
 refine wpAny_Try_except (Wq (plainObj_wpAny_Assign_Attribute ?_ rfl))
 refine Subscript_ (load_attr Wh F.e I h1 h2 ok1 fun tk dc rd=> ?_)
 have I1:Inv G C W l.vs st { S with toks:=tk }:=I.toks
 refine Subscript_ (load_attr Wh F.e I1 h4 h5 ok2 fun tk2 pc rp=> ?_)
 have I2:Inv G C W l.vs st { S with toks:=tk2 }:=I.toks
 refine wpAny_BinOp (I2.load F.e h6 fun ic ri=>Qn ?_)
 refine vInt ri fun ti=> ?_
 refine add_any fun t3 tk3=> ?_
 have I3:Inv G C W l.vs st { S with toks:=tk3 }:=I.toks
 have ei:Int.ofNat i+1=((i+1:Nat):Int):=by simp
 skip
 refine vRef rd fun ad hd=> ?_
 refine oE (I3.dict h3 hd) fun ds D=> ?_
 have hsys:=I3.notSys Wh.o hd
 (refine oEEAA (I3.pins.tup rp) fun at' vs q2z ht hr=> ?_;subst q2z)
 have hlen:=hr.length
 split at h
 ·rename_i hn
  walk_at "m m2 h lv s1 h h7"
  walk_at "m m10 h s2 h h8"
  ((refine oA (i2 h) fun q0z q1z=> ?_;subst q0z q1z))
  obtain ⟨hsm,hle,hnn⟩:small ps=true∧i≤4000∧nth ps (i+1)=none:=by
   walk_at "n zBo hn"
   ·rename_i q1
    walk_at "n zBo hn"
    ·rename_i q2;exact ⟨q1,Qh q2,hn⟩
    ·exact son hn
   ·exact son hn
  rw [Yb] at hnn
  have hout:ps.length≤i+1:=List.getElem?_eq_none_iff.mp hnn
  refine Vn ht.typeIs slot_tuple_getitem.lookup (getItem_tuple_out F.e.hand.1 ht (by simp;lia) (by lia) fun h' tk4 e hx=> ?_)
  refine note_first I3 F.e.hand rfl hx fun h2' T oe vs' ot ts I4 z1 z2 z3 z4 z5 z6 z7 z8 z9 z10=> ?_
  exact after_handler (X:= "IndexError") Wh Z self_IndexError' index_key rfl F I3 ⟨I4,z1,z2,z3,⟨oe,vs',z4,z5,z6,z7⟩,⟨ot,ts,z8,z9,z10⟩⟩ h4 h7 h8 fun W' S' le I'=>k rfl _ _ _ le I' trivial
 ·rename_i kk hn
  split at h
  ·rename_i v h7
   walk_at "m m10 h s2 h h8"
   ((refine oA (i2 h) fun q0z q1z=> ?_;subst q0z q1z))
   obtain ⟨hsm,hle,hnn⟩:small ps=true∧i≤4000∧nth ps (i+1)=some kk:=by
    walk_at "n zBo hn"
    ·rename_i q1
     walk_at "n zBo hn"
     ·rename_i q2;exact ⟨q1,Qh q2,hn⟩
     ·(obtain rfl:=Qz hn);exact absurd (find_spec h7).1 (by decide)
    ·(obtain rfl:=Qz hn);exact absurd (find_spec h7).1 (by decide)
   have hget:getI (.tup ps) (.int (Int.ofNat (i+1))) st=some kk:=by
    simp only [getI,place,Zd]
    rw [show Nat.ble ps.length 4000=true from Nat.ble_eq.mpr (Zf hsm)]
    exact hnn
   refine Yv I3 R.u7 hget (rp) (.int _ _) fun tk4 kc rk=> ?_
   have hget2:getI (.ref d) kk st=some v:=by simp only [getI,h3,h7]
   refine Yv (I.toks (tk:=tk4)) R.u7 hget2 (.ref hd) rk fun tk5 vc rv=> ?_
   rw [hsa] at h8
   refine (I.toks (tk:=tk5)).load F.e h4 fun xc rx=>Vy Wh.o Wh.cls I.toks h8 ok3 rx rv fun S' I'=> ?_
   exact Ww (Ww (k rfl _ _ _ (.refl W) I' trivial))
  ·rename_i h7
   walk_at "m m13 h vs2 h h8"
   refine oA (vals_eq h8) fun _ hstr=> ?_
   walk_at "M m72 h t h"
   walk_at "m m2 h lv s1 h h9"
   walk_at "m m10 h s2 h h10"
   ((refine oA (i2 h) fun q0z q1z=> ?_;subst q0z q1z))
   obtain ⟨hsm,hle,hnn⟩:small ps=true∧i≤4000∧nth ps (i+1)=some (.str t):=by
    walk_at "n zBo hn"
    ·rename_i q1
     walk_at "n zBo hn"
     ·rename_i q2;exact ⟨q1,Qh q2,hn⟩
     ·cases hn
    ·cases hn
   have hget:getI (.tup ps) (.int (Int.ofNat (i+1))) st=some (.str t):=by
    simp only [getI,place,Zd]
    rw [show Nat.ble ps.length 4000=true from Nat.ble_eq.mpr (Zf hsm)]
    exact hnn
   refine Yv I3 R.u7 hget (rp) (.int _ _) fun tk4 kc rk=> ?_
   refine vStr rk fun tkk=> ?_
   have I5:Inv G C W l.vs st { S with toks:=tk4 }:=I.toks
   refine oE (I5.dict h3 hd) fun ds5 D5=> ?_
   refine Vn D5.typeIs slot_dict_getitem.lookup (getItem_D_missing F.e.hand.1 hsys D5 hstr h7 fun h' tk6 e hx=> ?_)
   refine note_first I5 F.e.hand rfl hx fun h2' T oe vs' ot ts I4 z1 z2 z3 z4 z5 z6 z7 z8 z9 z10=> ?_
   exact after_handler (X:= "KeyError") Wh Z key_index self_KeyError rfl F I5 ⟨I4,z1,z2,z3,⟨oe,vs',z4,z5,z6,z7⟩,⟨ot,ts,z8,z9,z10⟩⟩ h4 h9 h10 fun W' S' le I'=>k rfl _ _ _ le I' trivial
  ·exact nos h
end
section
variable {G:Gl} {f s:Int}
theorem sub_any {A:Around} {S:Shared} {a b:Int} {t u:Tok} {Q:Value→Shared→Prop} {X:Value→Shared→Prop} (h:∀ t tk,Q (.int (a - b) t) { S with toks:=tk }):wpAny (model G.prog G.w) A (binaryOp .Sub (.int a t) (.int b u)) Q X S:=PyProof.Rows.sub_int (h _ _)
theorem sp6_ok (Wh:Whole G) (Z:Spec0 G f s) {Ee:Ev}:StAt G theN Ee w_Gbl (.spec 6 [0,0,3,0,0,1,2]):=by
 intro C W l st S fl l' st' Q X F R I h k
 walk_at "e G f s|Wh Z|Ee C W l st S fl l' st' Q X|F R I h k"
 simp only [Z.P] at h
 refine oA (Yq h) fun h0 hfl=> ?_
 subst hfl
 clear h
 have h:sp6 Pz l st=some (l',st'):=h0
 have hga:∀ v a s,getA Pz v a s=getA G.P v a s:=fun v a s=>by rw [Z.P];rfl
 have hsa:∀ v a x s,setA Pz v a x s=setA G.P v a x s:=fun v a x s=>by rw [Z.P];rfl
 have n2:theLn C.ln s_Gbl_lri=Str.ofString "lri" :=by rw [F.ln];rfl
 have n3:theLn C.ln s_Gbl_i=Str.ofString "i" :=by rw [F.ln];rfl
 have n5:G.nm n_lr_before=Str.ofString "lr_before" :=by rw [Z.nm];rfl
 have n6:G.nm n_prod=Str.ofString "prod" :=by rw [Z.nm];rfl
 have ok2:G.okA n_prod=true:=Wh.okA _ (by decide+kernel)
 have ok3:G.okA n_lr_before=true:=Wh.okA _ (by decide+kernel)
 walk_at "m m8 h xv h h4"
 walk_at "m m51 h ps h h5"
 rw [hga] at h5
 walk_at "m m17 h i h h6"
 walk_at "m m8 h v h h7"
 walk_at "m m10 h s2 h h8"
 ((refine oA (i2 h) fun q0z q1z=> ?_;subst q0z q1z))
 refine (?_:wpAny _ _ (exec (stAt C.root [0,0,3,0,0,1,2]) C.env) _ _ _)
 rw [F.root]
 refine (?_:wpAny _ _ (exec (.Try [.Assign [.Attribute (.Name (Str.ofString "lri") _) (Str.ofString "lr_before") _] (.Subscript (.Attribute (.Name (Str.ofString "lri") _) (Str.ofString "prod") _) (.BinOp (.Name (Str.ofString "i") _) .Sub (.Constant (.int 1) _ _) _) _) _] (_::_) [] [] _) _) _ _ _)
 rw [←n2,←n3,←n5,←n6]
 refine wpAny_Try_except (Wq (plainObj_wpAny_Assign_Attribute ?_ rfl))
 refine Subscript_ (load_attr Wh F.e I h4 h5 ok2 fun tk2 pc rp=> ?_)
 have I2:Inv G C W l.vs st { S with toks:=tk2 }:=I.toks
 refine wpAny_BinOp (I2.load F.e h6 fun ic ri=>Qn ?_)
 refine vInt ri fun ti=> ?_
 refine sub_any fun t3 tk3=> ?_
 have I3:Inv G C W l.vs st { S with toks:=tk3 }:=I.toks
 refine Yv I3 R.u7 h7 rp (.int _ _) fun tk4 vc rv=> ?_
 rw [hsa] at h8
 refine (I.toks (tk:=tk4)).load F.e h4 fun xc rx=>Vy Wh.o Wh.cls I.toks h8 ok3 rx rv fun S' I'=> ?_
 exact Ww (Ww (k rfl _ _ _ (.refl W) I' trivial))
theorem Xf (a b:List Nat):mkS a++mkS b=mkS (a++b):=by
 refine (?_:(⟨(a.toArray++b.toArray)⟩:Str)=⟨(a++b).toArray⟩)
 simp
theorem Xv (a:List Nat):(mkS a).length=a.length:=by refine (?_:a.toArray.size=_);simp
theorem digit_str:∀ n:Fin 10,Str.ofString (toString ((n.val:Nat):Int))=mkS [48+n.val]:=by decide+kernel
theorem sp0_ok (Wh:Whole G) (Z:Spec0 G f s) {Ee:Ev}:StAt G theN Ee w_Pi (.spec 0 [14,0,0,0,0]):=by
 intro C W l st S fl l' st' Q X F R I h k
 walk_at "e G f s|Wh Z|Ee C W l st S fl l' st' Q X|F R I h k"
 simp only [Z.P] at h
 refine oA (Yq h) fun h0 hfl=> ?_
 subst hfl
 clear h
 have h:sp0 l st=some (l',st'):=h0
 have n1:theLn C.ln s_Pi_key=Str.ofString "key" :=by rw [F.ln];rfl
 have n2:theLn C.ln s_Pi_nameuse=Str.ofString "nameuse" :=by rw [F.ln];rfl
 have n3:theLn C.ln s_Pi_k=Str.ofString "k" :=by rw [F.ln];rfl
 walk_at "m m54 h t h h1"
 walk_at "m m8 h u h h2"
 walk_at "m m17 h i h h3"
 walk_at "m m12 h h hsm"
 walk_at "m m33 h d h h4"
 walk_at "m m33 h td h h5"
 walk_at "m m16 h l2 h h6"
 ((refine oA (i2 h) fun q0z q1z=> ?_;subst q0z q1z))
 refine (?_:wpAny _ _ (exec (stAt C.root [14,0,0,0,0]) C.env) _ _ _)
 rw [F.root]
 refine (?_:wpAny _ _ (exec (.Assign [.Name (Str.ofString "k") _] (.JoinedStr [.FormattedValue (.Name (Str.ofString "key") _) (-1) none _,.FormattedValue (.Subscript (.Name (Str.ofString "nameuse") _) (.Name (Str.ofString "key") _) _) (-1) none _] _) _) _) _ _ _)
 rw [←n1,←n2,←n3]
 have hsm:=Zf hsm
 have sz:=Zv
 obtain ⟨n,hn,rfl,rfl⟩:∃ n,n < 10∧i=Int.ofNat n∧d=[48+n]:=by
  walk_at "M m179 h4 n h4"
  walk_at "m m12 h4 h4 q"
  rw [Zk] at h4
  refine e1 h4 ?_
  rw [blt_eq] at q
  exact ⟨n,Qd q,rfl,rfl⟩
 rw [app_eq] at h5
 (obtain rfl:=Qz h5)
 refine wpAny_Assign_Name (JoinedStr_many (joinParts_cons (FormattedValue_plain (I.load F.e h1 fun kc rk=> ?_)))) rfl
 refine vStr rk fun tk=> ?_
 refine formatField_str (fun t' tk'=> ?_) (by rw [Xv];lia)
 refine ⟨by refine (?_:(Str.empty++mkS t).length≤sizeLine);rw [strLen_append,Xv];refine (?_:0+t.length≤_);lia,?_⟩
 have I1:Inv G C W l.vs st { S with toks:=tk' }:=I.toks
 refine joinParts_cons (FormattedValue_plain (Subscript_ (I1.load F.e h2 fun uc ru=>I1.load F.e h1 fun kc2 rk2=>Yv I1 R.u7 h3 ru rk2 fun tk2 nc rn=> ?_)))
 refine vInt rn fun tn=> ?_
 refine formatField_int_small ?_ ?_
 ·refine (?_:(n:Nat).log2 < 1920)
  by_cases hz:n=0
  ·subst hz;decide
  ·have:=(Nat.log2_lt (n:=n) (k:=4) hz).mpr (by lia);lia
 have ed:Str.ofString (toString ((n:Nat):Int))=mkS [48+n]:=digit_str ⟨n,hn⟩
 have e1:Str.empty++mkS t++Str.ofString (toString ((n:Nat):Int))=mkS (t++ [48+n]):=by
  rw [ed,show (Str.empty:Str)=mkS [] from rfl,Xf,Xf];rfl
 refine ⟨?_,?_⟩
 ·refine (?_:(Str.empty++mkS t++Str.ofString (toString ((n:Nat):Int))).length≤sizeLine)
  rw [e1,Xv];simp;lia
 ·refine (?_:wpAny _ _ (joinParts (Str.empty++mkS t++Str.ofString (toString ((n:Nat):Int))) []) _ _ _)
  rw [e1]
  refine joinParts_nil ?_ (by rw [Xv];simp;lia)
  exact Xx F (I.toks) (by decide) h6 (.str _ _) fun S2 I2=>k (Lo.set_spec h6).1 _ _ _ (.refl W) I2 trivial
end
noncomputable def tailT:List Nat→List Nat
 | []=>[93]
 | c::r=>44::32::39::c::39::tailT r
theorem reprStrs_spec {xs:List AV}:∀ {r:List Nat},reprStrs xs=some r→∃ c cs,xs=(c::cs).map (fun c=>AV.str [c])∧r=39::c::39::tailT cs∧∀ x∈c::cs,okC x=true:=by
 induction xs with
 | nil=>intro r h;exact nos h
 | cons x rest ih=>
  intro r h
  walk_at "m m72 h t h qx"
  walk_at "m m110 h c h qt"
  subst qt qx
  walk_at "m m12 h h hc"
  cases rest with
  | nil=>refine e1 h ?_;exact ⟨c,[],rfl,rfl,fun x q=>by rw [Zw q];exact hc⟩
  | cons y ys=>
   walk_at "m m33 h r' h hr"
   refine e1 h ?_
   refine oEEAA (ih hr) fun c' cs' e1 e2 e3=> ?_
   exact ⟨c,c'::cs',by rw [e1];rfl,by rw [e2];rfl,fun q hq=>by
    rcases Zq hq with rfl | hq
    ·exact hc
    ·exact e3 q hq⟩
theorem okC_cases {c:Nat} (h:okC c=true):c=69∨c=97∨c=98∨c=109∨c=40∨c=41∨c=110:=by
 have b:∀ {x y:Bool},(x || y)=true→x=true∨y=true:=fun {x y} h=>(Bool.or_eq_true x y).mp h
 have e:∀ {n:Nat},Nat.beq c n=true→c=n:=Qy
 exact (b h).imp e fun h=>(b h).imp e fun h=>(b h).imp e fun h=>(b h).imp e fun h=>(b h).imp e fun h=>(b h).imp e e
theorem repr_okC {c:Nat} (h:okC c=true):reprText (mkS [c])=mkS [39,c,39]:=by
 rcases okC_cases h with rfl | rfl | rfl | rfl | rfl | rfl | rfl <;> decide+kernel
theorem textFrom_tail:∀ (cs:List Nat) (k:Nat) (acc:List Nat),(∀ x∈cs,okC x=true)→textFrom (k+1) (mkS acc) (cs.map fun c=>reprText (mkS [c]))++("]" :Str)=mkS (acc++tailT cs)
 | [],k,acc,_=>by
  show mkS acc++("]" :Str)=_
  rw [show ("]" :Str)=mkS [93] by decide+kernel,Xf];rfl
 | c::r,k,acc,h=>by
  show textFrom (k+1+1) (mkS acc++((if k+1 > 0 then ", " else "" :String):Str)++reprText (mkS [c])) (r.map fun c=>reprText (mkS [c]))++("]" :Str)=_
  rw [if_pos (by lia),show ((", " :String):Str)=mkS [44,32] by decide+kernel,repr_okC (h c (Qk ..)),Xf,Xf,textFrom_tail r (k+1) _ fun x hx=>h x (Qj _ hx)]
  simp [tailT]
theorem listText_ok (c:Nat) (cs:List Nat) (h:∀ x∈c::cs,okC x=true):listText ((c::cs).map fun c=>reprText (mkS [c]))=mkS (91::39::c::39::tailT cs):=by
 show textFrom 1 (("[" :Str)++((if 0 > 0 then ", " else "" :String):Str)++reprText (mkS [c])) (cs.map fun c=>reprText (mkS [c]))++("]" :Str)=_
 rw [if_neg (by lia),show (("" :String):Str)=mkS [] by decide+kernel,show ("[" :Str)=mkS [91] by decide+kernel,repr_okC (h c (Qk ..)),Xf,Xf,textFrom_tail cs 0 _ fun x hx=>h x (Qj _ hx)]
 rfl
theorem tailT_len (cs:List Nat):(tailT cs).length=5 * cs.length+1:=by
 induction cs with
 | nil=>rfl
 | cons c r ih=>simp [tailT,ih];lia
section
variable {G:Gl} {f s:Int}
theorem reads_strs {W:Wd} {h:Heap}:∀ (cs:List Nat) {vs:List Value},VRels G W (cs.map fun c=>AV.str [c]) vs→∃ as,ReadsAll h vs (cs.map fun c=>PyData.str (mkS [c])) as
 | [],_,h=>by cases h;exact ⟨[],.nil⟩
 | c::cs,_,h=>by
  cases h with
  | cons a r=>
   refine oE (reads_strs (h:= ‹Heap›) cs r) fun as q=> ?_
   cases a with
   | str _ t=>exact ⟨_,.cons (.str _ t) q⟩
theorem shown_strs (cs:List Nat):PyData.shownAll (cs.map fun c=>PyData.str (mkS [c]))=cs.map fun c=>reprText (mkS [c]):=by
 induction cs with
 | nil=>simp [PyData.shownAll]
 | cons c r ih=>simp [PyData.shownAll,ih,PyData.shown]
theorem showable_strs (cs:List Nat):PyData.showableAll (cs.map fun c=>PyData.str (mkS [c]))=true:=by
 induction cs with
 | nil=>simp [PyData.showableAll]
 | cons c r ih=>simp [PyData.showableAll,ih,PyData.showable]
theorem hasDict_strs (cs:List Nat):PyData.hasDictAll (cs.map fun c=>PyData.str (mkS [c]))=false:=by
 induction cs with
 | nil=>simp [PyData.hasDictAll]
 | cons c r ih=>simp [PyData.hasDictAll,ih,PyData.hasDict]
theorem depth_strs (cs:List Nat):PyData.depthAll (cs.map fun c=>PyData.str (mkS [c]))=0:=by
 induction cs with
 | nil=>simp [PyData.depthAll]
 | cons c r ih=>simp [PyData.depthAll,ih,PyData.depth]
theorem sp3_ok (Z:Spec0 G f s) {Ee:Ev}:StAt G theN Ee w_Gap (.spec 3 [4]):=by
 intro C W l st S fl l' st' Q X F R I h k
 walk_at "e G f s|Z|Ee C W l st S fl l' st' Q X|F R I h k"
 simp only [Z.P] at h
 refine oA (Yq h) fun h0 hfl=> ?_
 subst hfl
 clear h
 have h:sp3 l st=some (l',st'):=h0
 walk_at "m m30 h n h h1"
 walk_at "m m73 h xs h h2"
 walk_at "m m54 h t h h3"
 walk_at "m m12 h h hst"
 walk_at "m m12 h h hsx"
 have hst:=Zf hst
 have hsx:=Zf hsx
 walk_at "m m33 h r h hr"
 rw [app_eq] at h
 walk_at "m m16 h l1 h h5"
 ((refine oA (i2 h) fun q0z q1z=> ?_;subst q0z q1z))
 show wpAny _ _ (exec (stAt C.root [4]) C.env) _ _ _
 rw [F.root]
 have n1:theLn C.ln s_Gap_syms=Str.ofString "syms" :=by rw [F.ln];rfl
 have n2:theLn C.ln s_Gap_prodname=Str.ofString "prodname" :=by rw [F.ln];rfl
 have n3:theLn C.ln s_Gap_map=Str.ofString "map" :=by rw [F.ln];rfl
 show wpAny _ _ (exec (.Assign [.Name (Str.ofString "map") _] (.JoinedStr [.FormattedValue (.Name (Str.ofString "prodname") _) 115 none _,.Constant (.str (Str.ofString " -> ")) _ _,.FormattedValue (.Name (Str.ofString "syms") _) 115 none _] _) _) _) _ _ _
 rw [←n1,←n2,←n3]
 have sz:=Zv
 have szl:=sizeLine_eq
 (refine oEEAA (reprStrs_spec hr) fun c cs q2z q3z hok=> ?_;subst q2z q3z)
 have hsx':cs.length+1≤4000:=by simpa using hsx
 refine wpAny_Assign_Name (JoinedStr_many (joinParts_cons (wpAny_FormattedValue_s (I.load F.e h3 fun pv rp=> ?_)))) rfl
 refine vStr rp fun tp=> ?_
 refine habitSame_str (fun t1 tk1=>formatField_str (fun t2 tk2=> ?_) (by rw [Xv];lia)) (by rw [Xv];lia)
 refine ⟨by show (Str.empty++mkS t).length≤sizeLine;rw [strLen_append,Xv];show 0+t.length≤_;lia,?_⟩
 refine joinParts_cons (wpAny_Constant_str ?_)
 have e1:Str.empty++mkS t++Str.ofString " -> " =mkS (t++ [32,45,62,32]):=by
  rw [show Str.ofString " -> " =mkS [32,45,62,32] by decide+kernel,show (Str.empty:Str)=mkS [] from rfl,Xf,Xf];rfl
 refine ⟨by show (Str.empty++mkS t++Str.ofString " -> ").length≤sizeLine;rw [e1,Xv];simp;lia,?_⟩
 rw [e1]
 refine joinParts_cons (wpAny_FormattedValue_s ((I.toks).load F.e h1 fun lv rl=> ?_))
 refine vRef rl fun ad ha=> ?_
 refine oEEAA (I.list h2 ha) fun vs m hg hrl hl=> ?_
 refine oE (reads_strs (h:=S.heap) (c::cs) hrl) fun as hra=> ?_
 have hrd:Reads S.heap (.ref ad) (.list ((c::cs).map fun c=>PyData.str (mkS [c]))) (ad::as):= .list hg rfl rfl hra
 have hsh:PyData.shown (.list ((c::cs).map fun c=>PyData.str (mkS [c])))=mkS (91::39::c::39::tailT cs):=by
  simp only [PyData.shown];rw [shown_strs (c::cs)];exact listText_ok c cs hok
 refine pyStrObj_of_reads hrd (by simp only [PyData.showable];exact showable_strs (c::cs)) (fun q=>by simp only [PyData.hasDict] at q;rw [hasDict_strs (c::cs)] at q;exact fat q) F.e.hand.2.choose_spec.2.2.2.2 (by simp only [PyData.depth];rw [depth_strs (c::cs)];have:=R.1;lia) (fun uu uu e=>e) (fun h' u tk hk=> ?_) (by rw [hsh,Xv];simp [tailT_len];lia)
 rw [hsh]
 refine formatField_str (fun t3 tk3=> ?_) (by rw [Xv];simp [tailT_len];lia)
 refine ⟨by rw [Xf,Xv];simp [tailT_len];lia,?_⟩
 rw [Xf]
 refine joinParts_nil ?_ (by rw [Xv];simp [tailT_len];lia)
 refine Xx F (I.grow hk) (by decide) h5 ?_ fun S2 J=>k (Lo.set_spec h5).1 _ _ _ (.refl W) J trivial
 have e:t++ [32,45,62,32]++91::39::c::39::tailT cs=t++32::45::62::32::91::39::c::39::tailT cs:=by simp
 rw [e]
 exact .str _ _
end
section
variable {G:Gl} {C:Cx} {W:Wd} {l:Tr AV} {s:St} {S:Shared} {A:Around} {E:Value→Shared→Prop}
theorem Attrs.blur {es:List (Nat × AV)} {ds:List DictEntry} (h:Attrs G W es ds) {k:Nat} {x x':AV}:∀ {es':List (Nat × AV)},findA k es=some x→(∀ cv,VRel G W x cv→VRel G W x' cv)→storeA k x' es=some es'→
  Attrs G W es' ds∧es'.map (·.1)=es.map (·.1):=by
 induction h with
 | nil=>intro es' h;exact nos h
 | @cons k0 y es hh t v ds hv r ih=>
  intro es' h1 h2 h3
  by_cases q:k0=k
  ·subst q
   rw [findA_t] at h1;rw [storeA_t] at h3
   (obtain rfl:=Qz h1);refine e1 h3 ?_;exact ⟨.cons (h2 _ hv) r,rfl⟩
  ·rw [findA_f q] at h1;rw [storeA_f q] at h3
   walk_at "m m15 h3 r' h3 hr"
   refine e1 h3 ?_
   refine oA (ih h1 h2 hr) fun a b=> ?_
   exact ⟨.cons hv a,congrArg (k0:: ·) b⟩
theorem Ents.blur {es:List (AV × AV)} {ds:List DictEntry} (h:Ents G W es ds) {k x x':AV}:∀ {b:Bool} {es':List (AV × AV)},findGo k es=some (some x)→(∀ cv,VRel G W x cv→VRel G W x' cv)→storeGo k x' es=some (b,es')→
  b=false∧Ents G W es' ds∧es'.map (·.1)=es.map (·.1):=by
 induction h with
 | nil=>intro b es' h;cases (Qz h)
 | @cons k0 y es kv v ds hk hv r ih=>
  intro b es' h1 h2 h3
  refine zOb h1 (fun h1 q=> ?_) fun h1 q=> ?_
  ·replace h3:=zEt h3 q;cases h1;refine e2 h3 ?_;exact ⟨rfl,.cons hk (h2 _ hv) r,rfl⟩
  ·replace h3:=zEf h3 q
   walk_at "m m49 h3 b' r' h3 hr"
   refine e2 h3 ?_
   refine oAA (ih h1 h2 hr) fun a b c=> ?_
   exact ⟨a,.cons hk hv b,by simp [c]⟩
theorem VRels.blur {xs:List AV} {vs:List Value} (h:VRels G W xs vs) {n:Nat} {x x':AV} (h1:xs[n]? =some x) (h2:∀ cv,VRel G W x cv→VRel G W x' cv):VRels G W (xs.set n x') vs:=by
 induction xs generalizing vs n with
 | nil=>exact nos h1
 | cons y xs ih=>
  cases h with
  | cons a r=>
   cases n with
   | zero=>simp at h1;subst h1;exact .cons (h2 _ a) r
   | succ n=>exact .cons a (ih r (by simpa using h1))
theorem Inv.same (I:Inv G C W l s S) {n:Nat} {a:Addr} {o':AO} {co':Obj} {s':St} (ha:W.σ[n]? =some a) (hs:s.upd n o'=some s') (hg:S.heap.get? a=some co') (ho:OObj G W o' co'):Inv G C W l s' S:=by
 have:=I.upd (tk:=S.toks) ha hs (fun uu uu uu e=>e) hg ho
 exact this
theorem Inv.blurA (I:Inv G C W l s S) {n a:Nat} {x x':AV} {s':St} (ho:∀ c d es,s.h.get n=some (.inst c d)→s.h.get d=some (.attrs es)→findA a es=some x) (h2:∀ cv,VRel G W x cv→VRel G W x' cv) (h:setA G.P (.ref n) a x' s=some s'):Inv G C W l s' S:=by
 walk_at "e G C W l s S|I|n a x x' s'|ho h2 h"
 walk_at "m m26 h c d h h1"
 walk_at "m m9 h _ h _"
 walk_at "m m22 h es h h4"
 walk_at "m m15 h es' h h5"
 walk_at "m m12 h h _"
 refine oEEAA (I.objs _ _ h4) fun ad co e1 e2 e3=> ?_
 (refine Yg e3 fun ds m q2z q1 q2 q3=> ?_;clear e3;subst q2z)
 refine oA (q1.blur (ho c d es h1 h4) h2 h5) fun b1 b2=> ?_
 refine I.same e1 h e2 ⟨ds,m,rfl,b1,by rw [b2];exact q2,fun e he=> ?_⟩
 have:e.1∈es.map (·.1):=by rw [←b2];exact List.mem_map_of_mem he
 refine oEA (List.mem_map.mp this) fun e' he' hee=> ?_
 rw [←hee];exact q3 e' he'
set_option tactic.hygienic true in
theorem Inv.blurI (I:Inv G C W l s S) {v i x x':AV} {s':St} (h1:getI v i s=some x) (h2:∀ W' cv,VRel G W' x cv→VRel G W' x' cv) (h:setI v i x' s=some s'):Inv G C W l s' S:=by
 walk_at "e G C W l s S|I|v i x x' s'|h1 h2 h"
 unfold getI at h1
 walk_at "M m174 h n h"
 dsimp only at h1
 split at h
 ·rename_i xs hx
  rw [hx] at h1
  walk_at "M m34 h p h"
  walk_at "m m12 h h hsm"
  walk_at "m m13 h ys h hy"
  (refine oA (setNth_eq _ _ _ _ hy) fun _ q1z=> ?_;subst q1z)
  walk_at "m m14 h1 q h1 hq"
  walk_at "m m12 hq hq _"
  dsimp only at hq;(obtain rfl:=Qz hq)
  rw [Yb] at h1
  refine oEEAA (I.objs _ _ hx) fun ad co e1 e2 e3=> ?_
  (refine oEEA e3 fun vs m q2z e4=> ?_;clear e3;subst q2z)
  exact I.same e1 h e2 ⟨vs,m,rfl,e4.blur h1 (h2 W)⟩
 ·rename_i es ep hx
  rw [hx] at h1
  refine oEEAA (I.objs _ _ hx) fun ad co e1 e2 e3=> ?_
  (refine oEAAA e3 fun ds q1z e4 e5 e6=> ?_;clear e3;subst q1z)
  walk_at "m m68 h1 r h1 hf"
  subst h1
  walk_at "m m12 hf hf hk"
  have key:∀ {b es'},store i x' es=some (b,es')→b=false∧Ents G W es' ds∧es'.map (·.1)=es.map (·.1):=by
   intro b es' q
   unfold store at q
   rw [hk] at q
   exact e4.blur hf (h2 W) q
  split at h
  ·rename_i es' q;have:=(key q).1;exact taf this
  ·rename_i es' q
   refine oAA (key q) fun _ b1 b2=> ?_
   refine I.same e1 h e2 ⟨ds,rfl,b1,fun e he=> ?_,by rw [b2];exact e6⟩
   have:e.1∈es.map (·.1):=by rw [←b2];exact List.mem_map_of_mem he
   refine oEA (List.mem_map.mp this) fun e' he' hee=> ?_
   rw [←hee];exact e5 e' he'
  ·exact nos h
 ·exact nos h
theorem bIn {P:Prop} {x:Option AO} {A:Nat→Nat→Bool} (h:(match x with | some (.inst a b)=>A a b | _=>false)=true) (k:∀ a b,A a b=true→x=some (.inst a b)→P):P:=by
 cases x with
 | none=>exact fat h
 | some o=>cases o <;> first | exact fat h | exact k _ _ h rfl
theorem bAt {P:Prop} {x:Option AO} {A:List (Nat × AV)→Bool} (h:(match x with | some (.attrs a)=>A a | _=>false)=true) (k:∀ a,A a=true→x=some (.attrs a)→P):P:=by
 cases x with
 | none=>exact fat h
 | some o=>cases o <;> first | exact fat h | exact k _ h rfl
theorem bIv {x:Option AV} (h:(match x with | some (.int _)=>true | some .aint=>true | _=>false)=true):∃ y,x=some y∧∀ W cv,VRel G W y cv→∃ i t,cv= .int i t:=by
 cases x with
 | none=>exact fat h
 | some y=>
  cases y <;> first | exact fat h | skip
  ·exact ⟨_,rfl,fun W cv q=>by refine vInt q fun uu=> ?_;exact ⟨_,_,rfl⟩⟩
  ·exact ⟨_,rfl,fun W cv q=>by refine vAin q fun uu uu=> ?_;exact ⟨_,_,rfl⟩⟩
theorem ownInt_spec {v:AV} {a:Nat} (h:ownInt v a s=true):∃ n c d es x,v= .ref n∧s.h.get n=some (.inst c d)∧s.h.get d=some (.attrs es)∧findA a es=some x∧∀ W cv,VRel G W x cv→∃ i t,cv= .int i t:=by
 walk_at "e G s v a|h"
 cases v with
 | ref n=>
  refine bIn h fun c d h h1=> ?_
  refine bAt h fun es h h2=> ?_
  refine oEA (bIv (G:=G) h) fun x h3 q=> ?_
  exact ⟨n,c,d,es,x,rfl,h1,h2,h3,q⟩
 | _=>exact fat h
theorem Uq {ll:Lo} {g:Nat→Bool} (O:GOk G) (I:Inv G C W ll.vs s S) (F:Env0 G C g) (hu:A.units+7≤cLine) {op:CmpOp} {x y:Nat} {vx vy ax ay:AV} {r:Bool} {p1 p2 p:Pos} {Q:Bool→Shared→Prop} (hx:ll.get x=some vx) (hy:ll.get y=some vy)
  (lx:∀ vc,VRel G W vx vc→VRel G W ax vc) (ly:∀ vc,VRel G W vy vc→VRel G W ay vc) (h:cmpV op ax ay s=some r) (k:∀ tk,Q r { S with toks:=tk }):
  wpAny (model G.prog G.w) A (isTrue (.Compare (.Name (theLn C.ln x) p1) [op] [.Name (theLn C.ln y) p2] p) C.env (eval (.Compare (.Name (theLn C.ln x) p1) [op] [.Name (theLn C.ln y) p2] p) C.env)) Q E S:=by
 refine (?_:wpAny _ _ (do testChain p (←eval (.Name (theLn C.ln x) p1) C.env) [op] [eval (.Name (theLn C.ln y) p2) C.env]) _ _ _)
 exact Qq (I.load F hx fun xc rx=>test_last (I.load F hy fun yc ry=>cmpV_sound O I hu h (lx _ rx) (ly _ ry) fun tk=>wpAny_truthy_bool (k tk)))
theorem test_ns {ll:Lo} {g:Nat→Bool} (O:GOk G) (I:Inv G C W ll.vs s S) (F:Env0 G C g) (hu:A.units+7≤cLine) {op:CmpOp} {x:Nat} {vx ax:AV} {z:List Nat} {zs:Str} {r:Bool} {p1 p2 p:Pos} {n:Nat} {Q:Bool→Shared→Prop} (hx:ll.get x=some vx) (hz:zs=mkS z)
  (lx:∀ vc,VRel G W vx vc→VRel G W ax vc) (h:cmpV op ax (.str z) s=some r) (k:∀ tk,Q r { S with toks:=tk }):
  wpAny (model G.prog G.w) A (isTrue (.Compare (.Name (theLn C.ln x) p1) [op] [.Constant (.str zs) n p2] p) C.env (eval (.Compare (.Name (theLn C.ln x) p1) [op] [.Constant (.str zs) n p2] p) C.env)) Q E S:=by
 subst hz
 refine (?_:wpAny _ _ (do testChain p (←eval (.Name (theLn C.ln x) p1) C.env) [op] [eval (.Constant (.str (mkS z)) n p2) C.env]) _ _ _)
 exact Qq (I.load F hx fun xc rx=>test_last (wpAny_Constant_str (cmpV_sound O I.toks hu h (lx _ rx) (.str _ _) fun tk=>wpAny_truthy_bool (k tk))))
theorem test_not_n {ll:Lo} {g:Nat→Bool} (O:GOk G) (I:Inv G C W ll.vs s S) (F:Env0 G C g) {x:Nat} {vx ax:AV} {r:Bool} {p1 p:Pos} {wh:Sem Value} {Q:Bool→Shared→Prop} (hx:ll.get x=some vx)
  (lx:∀ vc,VRel G W vx vc→VRel G W ax vc) (h:truth G.P ax s=some r) (k:∀ tk,Q (!r) { S with toks:=tk }):
  wpAny (model G.prog G.w) A (isTrue (.UnaryOp .Not (.Name (theLn C.ln x) p1) p) C.env wh) Q E S:=
 isTrue_not (isTrue_plain (I.load F hx fun xc rx=>truth_sound O I h (lx _ rx) fun tk=>k tk))
theorem attr_sub {ll:Lo} {g:Nat→Bool} (Wh:Whole G) (F:Env0 G C g) (I:Inv G C W ll.vs s S) (hu:A.units+7≤cLine) {x y k:Nat} {v i q r:AV} {p1 p2 p3 p4:Pos} {Q:Value→Shared→Prop} (hx:ll.get x=some v) (hy:ll.get y=some i) (hq:getI v i s=some q) (ha:getA G.P q k s=some r) (hk:G.okA k=true)
  (kk:∀ tk rc,VRel G W r rc→Q rc { S with toks:=tk }):wpAny (model G.prog G.w) A (eval (.Attribute (.Subscript (.Name (theLn C.ln x) p1) (.Name (theLn C.ln y) p2) p3) (G.nm k) p4) C.env) Q E S:=by
 rw [arm_eval_Attribute]
 refine Qq (Subscript_ (I.load F hx fun vc rv=>I.load F hy fun ic ri=>Yv I hu hq rv ri fun tk qc rq=> ?_))
 exact Qq (wpAny_standAt (Qq (Qg (Vx Wh.o Wh.cls I.toks ha hk rq fun tk rc r2=>Qq (wpAny_letTemporaryGo (Qw (kk tk rc r2)))))))
end
set_option tactic.hygienic true in
theorem msy {β:Type} {r:β} {P:Prop} {x:Option AV} {A:Nat→Option β} (h:(match x with | some (.sym a0)=>A a0 | _=>none)=some r) (k:∀ a0,A a0=some r→x=some (.sym a0)→P):P:=by walk_at "mp"
theorem mIA {β:Type} {r:β} {P:Prop} {x:Option AV} {B:Option β} (h:(match x with | some (.int _)=>B | some .aint=>B | _=>none)=some r) (k:∀ x',B=some r→x=some x'→P):P:=by
 cases x with
 | none=>exact nos h
 | some v=>cases v <;> first | exact nos h | exact k _ h rfl
theorem ltI_dec (a b:Int):ltI a b=decide (a < b):=ltI_eq a b
theorem wayS_right {n:Int}:beqS (wayS n) [114,105,103,104,116]=decide (n=1):=by
 unfold wayS
 by_cases h:n=0
 ·simp [h];rfl
 ·by_cases h1:n=1
  ·simp [h1];rfl
  ·simp [h,h1];rfl
theorem wayS_non {n:Int} (h0:0≤n) (h3:n < 3):beqS (wayS n) [110,111,110,97,115,115,111,99]=decide (n=2):=by
 by_cases h:n=0
 ·simp [h];rfl
 ·by_cases h1:n=1
  ·simp [h1];rfl
  ·have:n=2:=by lia
   subst this;rfl
theorem half_spec {k n:Nat} (h:half k=some n):k=2 * n+1∧n < 3:=by
 rcases k with _ | _ | _ | _ | _ | _ | k <;> first | exact nos h | (refine e1 h ?_;exact ⟨rfl,by decide⟩)
section
variable {G:Gl} {f s:Int}
theorem sp11_ok (Wh:Whole G) (Z:Spec0 G f s) {Ee:Ev}:StAt G theN Ee w_Llpt (.spec 11 [7,0,3,0,0,1,2,0,2,0,1,0,0,1,0,0,2]):=by
 intro C W l st S fl l' st' Q X F R I h kk
 walk_at "e G f s|Wh Z|Ee C W l st S fl l' st' Q X|F R I h kk"
 simp only [Z.P] at h
 refine oA (Yq h) fun h0 hfl=> ?_
 subst hfl
 clear h
 have h:sp11 Pz l st=some (l',st'):=h0
 have hga:∀ v a s,getA Pz v a s=getA G.P v a s:=fun v a s=>by rw [Z.P];rfl
 have hsa:∀ v a x s,setA Pz v a x s=setA G.P v a x s:=fun v a x s=>by rw [Z.P];rfl
 have ok1:G.okA n_number=true:=Wh.okA _ (by decide+kernel)
 have ok2:G.okA n_reduced=true:=Wh.okA _ (by decide+kernel)
 have m1:G.nm n_number=Str.ofString "number" :=by rw [Z.nm];rfl
 have m2:G.nm n_reduced=Str.ofString "reduced" :=by rw [Z.nm];rfl
 have n1:theLn C.ln s_Llpt_slevel=Str.ofString "slevel" :=by rw [F.ln];rfl
 have n2:theLn C.ln s_Llpt_rlevel=Str.ofString "rlevel" :=by rw [F.ln];rfl
 have n3:theLn C.ln s_Llpt_rprec=Str.ofString "rprec" :=by rw [F.ln];rfl
 have n4:theLn C.ln s_Llpt_j=Str.ofString "j" :=by rw [F.ln];rfl
 have n5:theLn C.ln s_Llpt_a=Str.ofString "a" :=by rw [F.ln];rfl
 have n6:theLn C.ln s_Llpt_st_action=Str.ofString "st_action" :=by rw [F.ln];rfl
 have n7:theLn C.ln s_Llpt_st_actionp=Str.ofString "st_actionp" :=by rw [F.ln];rfl
 have n8:theLn C.ln s_Llpt_Productions=Str.ofString "Productions" :=by rw [F.ln];rfl
 have n9:theLn C.ln s_Llpt_p=Str.ofString "p" :=by rw [F.ln];rfl
 walk_at "m msy h ly h h1"
 walk_at "m msy h lx h h2"
 walk_at "m m14 h y h hy"
 walk_at "m m14 h x h hx"
 walk_at "m msy h wx h h3"
 walk_at "m m12 h h hwx"
 walk_at "m m24 h j h h4"
 walk_at "m m8 h a h h5"
 walk_at "m m8 h sa h h6"
 walk_at "m m8 h sp h h7"
 walk_at "m m8 h q h h8"
 walk_at "m m24 h k h h9"
 walk_at "m m17 h r h h10"
 walk_at "m m12 h h hr"
 walk_at "m m8 h ps h h11"
 walk_at "m m8 h pv h h12"
 walk_at "m m8 h pr h h13"
 walk_at "m mIA h ri h h14"
 walk_at "m m12 h h hown"
 walk_at "m m10 h s1 h h15"
 walk_at "m m17 h r2 h h16a"
 walk_at "m m12 h h hr2"
 walk_at "m m10 h s2 h h16"
 walk_at "m m8 h q2 h h17a"
 walk_at "m m10 h s3 h h17"
 ((refine oA (i2 h) fun q0z q1z=> ?_;subst q0z q1z))
 refine oA (half_spec hy) fun hly hy3=> ?_
 refine oA (half_spec hx) fun hlx hx3=> ?_
 have hwx:=Qy hwx
 subst hly hlx hwx
 have hr:r= -(Int.ofNat k):=by
  have:=hr
  rw [Vd] at this
  exact Qd this
 subst hr
 have hr2:r2= -(Int.ofNat k):=by
  have:=hr2
  rw [Vd] at this
  exact Qd this
 subst hr2
 rw [hga] at h9 h14
 rw [hsa] at h15
 obtain ⟨pn,pc,pd,pes,px,rfl,o1,o2,o3,o4⟩:=ownInt_spec hown
 have ry:∀ vc,VRel G W (.sym (2 * y+1)) vc→VRel G W (.int (levOf s y+1)) vc:=fun vc q=>by
  have q:=vSym q;rw [Z.rho] at q;(refine oE ((rho_num hy3).mp q) fun t q1z=> ?_;subst q1z);exact .int _ _
 have rx:∀ vc,VRel G W (.sym (2 * x+1)) vc→VRel G W (.int (levOf s x+1)) vc:=fun vc q=>by
  have q:=vSym q;rw [Z.rho] at q;(refine oE ((rho_num hx3).mp q) fun t q1z=> ?_;subst q1z);exact .int _ _
 have rw':∀ vc,VRel G W (.sym (2 * x)) vc→VRel G W (.str (wayS (wayN f (levOf s x)))) vc:=fun vc q=>by
  have q:=vSym q;rw [Z.rho] at q;(refine oE ((rho_way hx3).mp q) fun t q1z=> ?_;subst q1z);exact .str _ _
 refine oA (levOf_range s y) fun ly0 ly1=> ?_
 refine oA (levOf_range s x) fun lx0 lx1=> ?_
 refine oA (wayN_range f (levOf s x)) fun wn0 wn1=> ?_
 have rblur:∀ cv,VRel G W px cv→VRel G W .aint cv:=fun cv q=>by
  (refine oEE (o4 W cv q) fun i t q2z=> ?_;subst q2z);exact .aint _ _
 have hown':∀ c d es,st.h.get pn=some (.inst c d)→st.h.get d=some (.attrs es)→findA n_reduced es=some px:=fun c d es e1 e2=>by
  rw [o1] at e1;cases e1;rw [o2] at e2;cases e2;exact o3
 have hri:∀ cv,VRel G W ri cv→∃ i t,cv= .int i t:=fun cv q=>by
  have:ri=px:=by
   have q2:=h14
   simp only [getA,o1,o2,o3] at q2
   walk_at "m m9 q2 _ q2 _"
   walk_at "m m12 q2 q2 _"
   refine e1 q2 ?_;rfl
  subst this
  exact o4 W cv q
 have hact:G.actp=theAct f s:=Z.act
 show wpAny _ _ (exec (stAt C.root [7,0,3,0,0,1,2,0,2,0,1,0,0,1,0,0,2]) C.env) _ _ _
 rw [F.root]
 show wpAny _ _ (exec (.If (.BoolOp .Or [.Compare (.Name (Str.ofString "slevel") _) [.Gt] [.Name (Str.ofString "rlevel") _] _,.BoolOp .And [.Compare (.Name (Str.ofString "slevel") _) [.Eq] [.Name (Str.ofString "rlevel") _] _,.Compare (.Name (Str.ofString "rprec") _) [.Eq] [.Constant (.str (Str.ofString "right")) _ _] _] _] _)
  [.AugAssign (.Attribute (.Subscript (.Name (Str.ofString "Productions") _) (.Attribute (.Subscript (.Name (Str.ofString "st_actionp") _) (.Name (Str.ofString "a") _) _) (Str.ofString "number") _) _) (Str.ofString "reduced") _) .Sub (.Constant (.int 1) _ _) _,
   .Assign [.Subscript (.Name (Str.ofString "st_action") _) (.Name (Str.ofString "a") _) _] (.Name (Str.ofString "j") _) _,
   .Assign [.Subscript (.Name (Str.ofString "st_actionp") _) (.Name (Str.ofString "a") _) _] (.Name (Str.ofString "p") _) _,
   .If (.UnaryOp .Not (.Name (Str.ofString "rlevel") _) _) (_::_) [] _]
  [.If (.BoolOp .And [.Compare (.Name (Str.ofString "slevel") _) [.Eq] [.Name (Str.ofString "rlevel") _] _,.Compare (.Name (Str.ofString "rprec") _) [.Eq] [.Constant (.str (Str.ofString "nonassoc")) _ _] _] _)
   [.Assign [.Subscript (.Name (Str.ofString "st_action") _) (.Name (Str.ofString "a") _) _] (.Constant .none _ _) _]
   [.If (.BoolOp .And [.UnaryOp .Not (.Name (Str.ofString "slevel") _) _,.UnaryOp .Not (.Name (Str.ofString "rlevel") _) _] _) (_::_) [] _] _] _) _) _ _ _
 rw [←n1,←n2,←n3,←n4,←n5,←n6,←n7,←n8,←n9,←m1,←m2]
 have eqE:∀ (a b:Int),cmpV .Eq (.int a) (.int b) st=some (decide (a=b)):=fun a b=>by show some (beqI a b)=_;rw [Vd]
 have tru:∀ i:Int,0≤i→truth G.P (.int (i+1)) st=some true:=fun i hi=>by
  show some (!beqI (i+1) 0)=_
  rw [Vd,Wk (by lia)];rfl
 have J1:∀ {tk},Inv G C W l.vs s1 { S with toks:=tk }:=fun {tk}=>(I.toks (tk:=tk)).blurA hown' rblur h15
 by_cases c1:levOf s x < levOf s y∨(levOf s x=levOf s y∧wayN f (levOf s x)=1)
 ·-- shift
  have hv:∀ t,VRel G W (.act x y k j) (.int (.ofNat j) t):=fun t=> .act (by rw [hact];unfold theAct;rw [if_pos c1];exact ⟨t,rfl⟩)
  have body:∀ {q1 q2 q3 q4 q5 q6 q7 q8 q9 q10 q11 q12 q13 q14 q15 q16 q17 q18 q19 q20 q21 q22:Pos} {m:Nat} {e1:Stmt} {es:List Stmt} (tk:Nat),wpAny (model G.prog G.w) C.A (execs [.AugAssign (.Attribute (.Subscript (.Name (theLn C.ln s_Llpt_Productions) q1) (.Attribute (.Subscript (.Name (theLn C.ln s_Llpt_st_actionp) q2) (.Name (theLn C.ln s_Llpt_a) q3) q4) (G.nm n_number) q5) q6) (G.nm n_reduced) q7) .Sub (.Constant (.int 1) m q8) q9,
   .Assign [.Subscript (.Name (theLn C.ln s_Llpt_st_action) q10) (.Name (theLn C.ln s_Llpt_a) q11) q12] (.Name (theLn C.ln s_Llpt_j) q13) q14,.Assign [.Subscript (.Name (theLn C.ln s_Llpt_st_actionp) q15) (.Name (theLn C.ln s_Llpt_a) q16) q17] (.Name (theLn C.ln s_Llpt_p) q18) q19,.If (.UnaryOp .Not (.Name (theLn C.ln s_Llpt_rlevel) q20) q21) (e1::es) [] q22] C.env) Q X { S with toks:=tk }:=fun tk=>
   Wq (wpAny_AugAssign_AttributeAny (Subscript_ ((I.toks (tk:=tk)).load F.e h11 fun psc rps=>attr_sub Wh F.e (I.toks (tk:=tk)) R.u7 h7 h5 h8 h9 ok1 fun tk1 kc rk=>Yv I.toks R.u7 h13 rps rk fun tk2 prc rpr=>
    Vx Wh.o Wh.cls I.toks h14 ok2 rpr fun tk3 rc rrc=>Qn (by
     (refine oEE (hri _ rrc) fun i ti q2z=> ?_;subst q2z)
     refine PyProof.Rows.isub_int (Vy Wh.o Wh.cls I.toks h15 ok2 rpr (.aint _ _) fun S1 K1=> ?_)
     refine Wq (wpAny_Assign_Subscript (K1.load F.e h4 fun jc rj=>K1.load F.e h6 fun sac rsa=>K1.load F.e h5 fun ac ra=> ?_))
     refine vInt rj fun tj=> ?_
     refine Xu Wh.o K1 R.u7 h16 rsa ra (hv tj) fun S2 K2=> ?_
     refine Wq (wpAny_Assign_Subscript (K2.load F.e h12 fun pc rp=>K2.load F.e h7 fun spc rsp=>K2.load F.e h5 fun ac ra=> ?_))
     refine Xu Wh.o K2 R.u7 h17 rsp ra (.junk _) fun S3 K3=> ?_
     refine Wq (wpAny_If (test_not_n Wh.o K3 F.e h2 rx (tru _ lx0) fun tk4=> ?_))
     exact Ww (Ww (kk rfl _ _ _ (.refl W) K3.toks trivial))))))
  by_cases c2:levOf s x < levOf s y
  ·refine wpAny_If (isTrue_or (Uq Wh.o I F.e R.u7 h1 h2 ry rx (r:=true) (by show some (ltI _ _)=_;rw [ltI_dec,Wj (by lia)]) fun tk=> ?_))
   exact body _
  ·obtain ⟨c3,c4⟩:levOf s x=levOf s y∧wayN f (levOf s x)=1:=by rcases c1 with q | q;exact absurd q c2;exact q
   refine wpAny_If (isTrue_or (Uq Wh.o I F.e R.u7 h1 h2 ry rx (r:=false) (by show some (ltI _ _)=_;rw [ltI_dec,Wk (by lia)]) fun tk=> ?_))
   refine isTrue_or (isTrue_and (Uq Wh.o I.toks F.e R.u7 h1 h2 ry rx (r:=true) (by rw [eqE,Wj (by lia)]) fun tk=> ?_))
   refine isTrue_and (test_ns Wh.o I.toks F.e R.u7 h3 (z:=[114,105,103,104,116]) (by decide+kernel) rw' (r:=true) (by show some (beqS _ _)=_;rw [wayS_right,Wj c4]) fun tk=> ?_)
   refine isTrue_and_nil ?_
   exact body _
 ·have c2:¬levOf s x < levOf s y:=fun q=>c1 (.inl q)
  have N1:∀ {tk0} {p1 p2 p3 p4 p5 p6 p7 p8 p9 p10 p11:Pos} {n:Nat} {R:Bool→Shared→Prop} {wh:Sem Value},(∀ tk,R false { S with toks:=tk })→
    wpAny (model G.prog G.w) C.A (isTrue (.BoolOp .Or [.Compare (.Name (theLn C.ln s_Llpt_slevel) p1) [.Gt] [.Name (theLn C.ln s_Llpt_rlevel) p2] p3,.BoolOp .And [.Compare (.Name (theLn C.ln s_Llpt_slevel) p4) [.Eq] [.Name (theLn C.ln s_Llpt_rlevel) p5] p6,.Compare (.Name (theLn C.ln s_Llpt_rprec) p7) [.Eq] [.Constant (.str (Str.ofString "right")) n p8] p9] p10] p11) C.env wh) R X { S with toks:=tk0 }:=by
   intro tk0 p1 p2 p3 p4 p5 p6 p7 p8 p9 p10 p11 n R' wh hR
   refine isTrue_or (Uq Wh.o I.toks F.e R.u7 h1 h2 ry rx (r:=false) (by show some (ltI _ _)=_;rw [ltI_dec,Wk (by lia)]) fun tk=> ?_)
   by_cases c3:levOf s x=levOf s y
   ·have c4:¬wayN f (levOf s x)=1:=fun q=>c1 (.inr ⟨c3,q⟩)
    refine isTrue_or (isTrue_and (Uq Wh.o I.toks F.e R.u7 h1 h2 ry rx (r:=true) (by rw [eqE,Wj (by lia)]) fun tk=> ?_))
    refine isTrue_and (test_ns Wh.o I.toks F.e R.u7 h3 (z:=[114,105,103,104,116]) (by decide+kernel) rw' (r:=false) (by show some (beqS _ _)=_;rw [wayS_right,Wk c4]) fun tk=> ?_)
    exact isTrue_or_nil (hR _)
   ·refine isTrue_or (isTrue_and (Uq Wh.o I.toks F.e R.u7 h1 h2 ry rx (r:=false) (by rw [eqE,Wk (by lia)]) fun tk=> ?_))
    exact isTrue_or_nil (hR _)
  refine wpAny_If (N1 (tk0:=S.toks) fun tk=> ?_)
  by_cases c5:levOf s x=levOf s y∧wayN f (levOf s x)=2
  ·refine Wq (wpAny_If (isTrue_and (Uq Wh.o I.toks F.e R.u7 h1 h2 ry rx (r:=true) (by rw [eqE,Wj (by lia)]) fun tk=> ?_)))
   refine isTrue_and (test_ns Wh.o I.toks F.e R.u7 h3 (z:=[110,111,110,97,115,115,111,99]) (by decide+kernel) rw' (r:=true) (by show some (beqS _ _)=_;rw [wayS_non wn0 wn1,Wj c5.2]) fun tk=> ?_)
   refine isTrue_and_nil ?_
   refine Wq (wpAny_Assign_Subscript (PyProof.Rows.Constant_none ((J1 (tk:=tk)).load F.e h6 fun sac rsa=>J1.load F.e h5 fun ac ra=> ?_)))
   refine Xu Wh.o J1 R.u7 h16 rsa ra (.act (by rw [hact];unfold theAct;rw [if_neg c1,if_pos c5])) fun S2 K2=> ?_
   exact Ww (Ww (kk rfl _ _ _ (.refl W) (K2.blurI h17a (fun uu uu uu=> .junk _) h17) trivial))
  ·have hv:∀ W' cv,VRel G W' (.int (-(Int.ofNat k))) cv→VRel G W' (.act x y k j) cv:=fun W' cv q=>by
    refine vInt q fun t=> ?_;exact .act (by rw [hact];unfold theAct;rw [if_neg c1,if_neg c5];exact ⟨t,rfl⟩)
   have fin:∀ {q1 q2 q3 q4 q5 q6:Pos} {e1:Stmt} {es:List Stmt} {Q':Flow→Shared→Prop} (hq:∀ S',Q .next S'→Q' .next S') (tk:Nat),wpAny (model G.prog G.w) C.A (execs [.If (.BoolOp .And [.UnaryOp .Not (.Name (theLn C.ln s_Llpt_slevel) q1) q2,.UnaryOp .Not (.Name (theLn C.ln s_Llpt_rlevel) q3) q4] q5) (e1::es) [] q6] C.env) Q' X { S with toks:=tk }:=fun hq tk=>by
    refine Wq (wpAny_If (isTrue_and (test_not_n Wh.o J1 F.e h1 ry (show truth G.P _ s1=_ from tru _ ly0) fun tk=> ?_)))
    exact Ww (Ww (hq _ (kk rfl _ _ _ (.refl W) ((J1.blurI h16a hv h16).blurI h17a (fun uu uu uu=> .junk _) h17) trivial)))
   refine Wq (wpAny_If ?_)
   by_cases c3:levOf s x=levOf s y
   ·have c4:¬wayN f (levOf s x)=2:=fun q=>c5 ⟨c3,q⟩
    refine isTrue_and (Uq Wh.o I.toks F.e R.u7 h1 h2 ry rx (r:=true) (by rw [eqE,Wj (by lia)]) fun tk=> ?_)
    refine isTrue_and (test_ns Wh.o I.toks F.e R.u7 h3 (z:=[110,111,110,97,115,115,111,99]) (by decide+kernel) rw' (r:=false) (by show some (beqS _ _)=_;rw [wayS_non wn0 wn1,Wk c4]) fun tk=> ?_)
    exact fin (fun S' h=>Ww h) _
   ·refine isTrue_and (Uq Wh.o I.toks F.e R.u7 h1 h2 ry rx (r:=false) (by rw [eqE,Wk (by lia)]) fun tk=> ?_)
    exact fin (fun S' h=>Ww h) _
end
noncomputable def okW (w:WF):Prop:=w∈wT.map (·.2)
structure Kit (G:Gl) (f s:Int):Prop where
 Wh:Whole G
 MN:MNames G theN
 Z:Spec0 G f s
 TG:TabG G
 CL:ClopOk G
 LF:LawFns G
 CG:ClsG G
 RN:RNames G
section
variable {G:Gl} {f s:Int}
theorem spec_ok (K:Kit G f s):SpecOk G okW:=by
 intro w hw k path hk Ee
 walk_at "e G f s|K|w|hw|k path|hk|Ee"
 unfold okW wT at hw
 simp only [List.map_cons,List.map_nil,List.mem_cons,List.not_mem_nil,or_false] at hw
 have none:∀ {w:WF},w.specs=[]→w.specs.contains (k,path)=true→StAt G theN Ee w (.spec k path):=fun {w} e h=>by rw [e] at h;exact fat h
 have two:∀ {w:WF} {k1 k2:Nat} {p1 p2:List Nat},w.specs=[(k1,p1),(k2,p2)]→w.specs.contains (k,path)=true→StAt G theN Ee w (.spec k1 p1)→StAt G theN Ee w (.spec k2 p2)→StAt G theN Ee w (.spec k path):=fun e h h1 h2=>by
  rw [e] at h
  simp only [List.contains_eq_mem,List.mem_cons,List.not_mem_nil,or_false,decide_eq_true_eq,Prod.mk.injEq] at h
  rcases h with ⟨a,b⟩ | ⟨a,b⟩ <;> subst a <;> subst b <;> first | exact @h1 | exact @h2
 rcases hw with rfl | rfl | rfl | rfl | rfl | rfl | rfl | rfl | rfl | rfl | rfl | rfl | rfl | rfl | rfl | rfl | rfl | rfl | rfl | rfl | rfl | rfl | rfl | rfl | rfl | rfl | rfl | rfl | rfl | rfl | rfl | rfl | rfl | rfl | rfl
 all_goals try exact @none _ rfl hk
 ·exact @two _ _ _ _ _ rfl hk (@sp0_ok G f s K.Wh K.Z Ee) (@sp1_ok G f s K.Wh K.Z K.TG Ee)
 ·have h:[(2,[3,0,5]),(3,[4]),(4,[12])].contains (k,path)=true:=hk
  simp only [List.contains_eq_mem,List.mem_cons,List.not_mem_nil,or_false,decide_eq_true_eq,Prod.mk.injEq] at h
  rcases h with ⟨a,b⟩ | ⟨a,b⟩ | ⟨a,b⟩ <;> subst a <;> subst b
  ·exact @sp2_ok G f s K.Wh K.Z Ee
  ·exact @sp3_ok G f s K.Z Ee
  ·exact @sp4_ok G f s K.Wh K.MN K.Z Ee
 ·exact @two _ _ _ _ _ rfl hk (@sp5_ok G f s K.Wh K.Z Ee) (@sp6_ok G f s K.Wh K.Z Ee)
 ·exact @two _ _ _ _ _ rfl hk (@sp7_ok G f s K.Z K.TG K.CL Ee) (@sp8_ok G f s K.Z K.TG K.CL Ee)
 ·exact @two _ _ _ _ _ rfl hk (@sp9_ok G f s K.Z K.TG K.CL Ee) (@sp10_ok G f s K.Z K.TG K.CL Ee)
 ·have h:[(11,[7,0,3,0,0,1,2,0,2,0,1,0,0,1,0,0,2])].contains (k,path)=true:=hk
  simp only [List.contains_eq_mem,List.mem_cons,List.not_mem_nil,or_false,decide_eq_true_eq,Prod.mk.injEq] at h
  obtain ⟨a,b⟩:=h
  subst a;subst b
  exact @sp11_ok G f s K.Wh K.Z Ee
 ·exact @two _ _ _ _ _ rfl hk (@sp12_ok G f s K.Z Ee) (@sp13_ok G f s K.Wh K.Z K.LF Ee)
set_option tactic.hygienic true in
theorem assoc_mem {α:Type} {k:Nat} {v:α}:∀ {l:List (Nat × α)},assoc k l=some v→(k,v)∈l
 | [],h=>by exact nos h
 | e::r,h=>by
  walk_at "n zBo h"
  ·rename_i q
   refine e1 h ?_
   have:=Qy q
   subst this
   exact Qk ..
  ·exact Qj _ (assoc_mem h)
theorem clos_ok (K:Kit G f s):ClosOk G:=by
 intro k F h vs pin a hc
 rw [K.Z.P] at h
 have h:=assoc_mem (show assoc k [(0,clos0),(1,clos1),(2,clos2),(3,clos3)]=some F from h)
 simp only [List.mem_cons,List.not_mem_nil,or_false,Prod.mk.injEq] at h
 rcases h with ⟨rfl,rfl⟩ | ⟨rfl,rfl⟩ | ⟨rfl,rfl⟩ | ⟨rfl,rfl⟩
 ·rw [K.CL.c0] at hc;exact ⟨_,_,hc⟩
 ·rw [K.CL.c1] at hc;exact ⟨_,_,hc⟩
 ·rw [K.CL.c2] at hc;exact ⟨_,_,hc⟩
 ·rw [K.CL.c3] at hc;exact ⟨_,_,hc⟩
theorem rare_ok (K:Kit G f s):Rare G okW where
 blt:=fun Ee H FN=>blt_ok K.Wh (getattr_ok K.Wh K.CG) H FN
 keys:=fun Ee H g x q m args pa p hw=>by intro C W l s S v s' Q X F R I h k;exact keys_ok K.Wh K.RN H.toEOk hw F R I h k
 vals:=fun Ee H g f pf o m pa pm p hf hw=>by intro C W l s S v s' Q X F R I h k;exact vals_ok K.Wh K.RN H.toEOk hf hw F R I h k
 clo:=fun Ee H g x pf args p hw=>by intro C W l s S v s' Q X F R I h k;exact clo_ok K.Wh.names (clos_ok K) H hw F R I h k
end
noncomputable def bltIs (s:String) (v:Value):Bool:=match v with | .builtin t=>s==t | _=>false
noncomputable def typIs (s:String) (v:Value):Bool:=match v with | .type t=>s==t | _=>false
theorem bltIs_spec {s:String} {v:Value} (h:bltIs s v=true):v= .builtin s:=by cases v <;> first | exact fat h | exact congrArg (fun x=>Value.builtin x) (beq_iff_eq.mp h).symm
theorem typIs_spec {s:String} {v:Value} (h:typIs s v=true):v= .type s:=by cases v <;> first | exact fat h | exact congrArg Value.type (beq_iff_eq.mp h).symm
noncomputable def oo (f:Value→Bool) (r:Option (Option Value)):Bool:=match r with
 | some r=>(match r with | some v=>f v | none=>false)
 | none=>false
theorem oo_spec {f:Value→Bool} {r:Option (Option Value)} (h:oo f r=true):∃ v,r=some (some v)∧f v=true:=by
 cases r with
 | none=>exact fat h
 | some r=>cases r with
  | none=>exact fat h
  | some v=>exact ⟨v,rfl,h⟩
noncomputable def vRefIs (P:Nat) (v:Value):Bool:=match v with | .ref q=>Nat.beq q P | _=>false
theorem vRefIs_spec {P:Nat} {v:Value} (h:vRefIs P v=true):v= .ref P:=by cases v <;> first | exact congrArg Value.ref (Qy h) | exact fat h
noncomputable def isNN (r:Option (Option Value)):Bool:=match r with
 | some r=>r.isNone
 | none=>false
noncomputable def isRf (a:Nat) (r:Option (Option Value)):Bool:=oo (vRefIs a) r
noncomputable def isFnT (r:Option Value):Bool:=match r with
 | some v=>typIs "function" v
 | none=>false
noncomputable def plInt (K:Frag) (i:Int) (v:Value):Bool:=match v with
 | .int j t=>decide (i=j) && isNN (specialIn K (.int j t) "__get__")
 | _=>false
theorem plInt_spec {K:Frag} {i:Int} {v:Value} (h:plInt K i v=true):∃ t,v= .int i t∧isNN (specialIn K (.int i t) "__get__")=true:=by
 cases v <;> first | exact fat h | skip
 have h:=bt1 h
 have e:=Qd h.1
 subst e
 exact ⟨_,rfl,h.2⟩
noncomputable def plainChk (K:Frag) (pv:AV) (r:Option (Option Value)):Bool:=match pv with
 | .int i=>oo (plInt K i) r
 | _=>false
noncomputable def isSA (r:Option (Option Value)):Bool:=oo (bltIs "object.__setattr__") r
noncomputable def methChk (K:Frag) (C:Addr) (nm:Str) (f:Nat):Bool:=match assoc f gadT with
 | some a=>isRf a (findIn K (.ref C) nm) && isFnT (typeIn K (.ref a))
 | none=>false
noncomputable def clsChk (K:Frag) (C:Addr) (Cl:Cls):Bool:=
 plainGet K C Str.empty && hasDictIn K C && isSA (findIn K (.ref C) "__setattr__") && plainOver K C && makesIn K C &&
 ((List.range 100).all fun k=> !okAttr k || (isNN (takerIn K C (theNm k)) && !copiedNames.contains (theNm k) && match findA k Cl.plain with
  | none=>isNN (findIn K (.ref C) (theNm k))
  | some pv=>plainChk K pv (findIn K (.ref C) (theNm k)))) &&
 (Cl.meths.all fun m=>methChk K C (theNm m.1) m.2) && methChk K C "__init__" Cl.init &&
 (match Cl.len with
  | none=>isNN (findIn K (.ref C) "__bool__") && isNN (findIn K (.ref C) "__len__")
  | some f=>methChk K C "__len__" f)
noncomputable def fdOf (K:Frag) (a:Addr):FuncData:=match K.lookup a with
 | some ⟨_,_,.func fd,_⟩=>fd
 | _=>default
theorem fdOf_spec {K:Frag} {a:Addr} (h:fnIn K a=true):∃ o,K.lookup a=some o∧o.data= .func (fdOf K a):=by
 unfold fnIn at h
 unfold fdOf
 cases e:K.lookup a with
 | none=>rw [e] at h;exact fat h
 | some o=>
  rw [e] at h
  obtain ⟨c,d,dt,sl⟩:=o
  cases dt <;> first | exact fat h | exact ⟨_,rfl,rfl⟩
noncomputable def AllL:Nat→(List Value→Prop)→Prop
 | 0,P=>P []
 | n+1,P=>∀ v,AllL n fun l=>P (v::l)
theorem AllL.use {n:Nat} {P:List Value→Prop} (h:AllL n P) (vs:List Value) (e:vs.length=n):P vs:=by
 subst e
 induction vs generalizing P with
 | nil=>exact h
 | cons v vs ih=>exact ih (h v)
noncomputable def sQ (x y:Str):Bool:=beqS x.cps.toList y.cps.toList
theorem sQ_eq (x y:Str):sQ x y=decide (x=y):=by
 refine (Vb _ _).trans (decide_eq_decide.mpr ⟨fun h=> ?_,fun h=>congrArg (fun z=>z.cps.toList) h⟩)
 cases x;cases y;exact congrArg Str.mk (Array.toList_inj.mp h)
noncomputable def lkS {β:Type} (n:Str):List (Str × β)→Option β
 | []=>none
 | (k,b)::r=>match sQ n k with
  | true=>some b
  | false=>lkS n r
theorem lkS_eq {β:Type} (n:Str) (l:List (Str × β)):lkS n l=l.lookup n:=by
 induction l with
 | nil=>rfl
 | cons p r ih=>
  show (match sQ n p.1 with | true=>some p.2 | false=>lkS n r)=(match decide (n=p.1) with | true=>some p.2 | false=>r.lookup n)
  rw [sQ_eq,ih]
noncomputable def namesChk (sc:Scope) (ln:List String) (gs:List Nat):Bool:=
 !sc.isCoroutine && !sc.isGenerator && decide (sc.kind= .function) && (sc.names.all fun x=> !decide (x.2= .cell)) &&
 (ln.all fun nm=>decide (lkS (Str.ofString nm) sc.names=some .local)) && (gs.all fun x=>decide (lkS (theNm x) sc.names=some .globalImplicit))
noncomputable def namesChkC (sc:Scope) (ln:List String) (gs:List Nat) (cl:List (Str × Addr)):Bool:=
 !sc.isCoroutine && !sc.isGenerator && decide (sc.kind= .function) &&
 (ln.all fun nm=>decide (lkS (Str.ofString nm) sc.names=some .local) && decide (cl.lookup (Str.ofString nm)=none) || decide (lkS (Str.ofString nm) sc.names=some .cell) && (cl.lookup (Str.ofString nm)).isSome) &&
 (gs.all fun x=>decide (lkS (theNm x) sc.names=some .globalImplicit))
noncomputable def strIs (q:Str) (o:Option Value):Bool:=match o with
 | some v=>match v with
  | .str x _=>sQ x q
  | _=>false
 | none=>false
theorem strIs_spec {q:Str} {o:Option Value} (h:strIs q o=true):∃ t,o=some (.str q t):=by
 cases o with
 | none=>exact fat h
 | some v=>cases v <;> first | exact fat h | exact ⟨_,congrArg (fun x=>some (Value.str x _)) (Qd ((sQ_eq _ _).symm.trans h))⟩
noncomputable def fieldIs (q:Str) (d:Data):Bool:=match d with
 | .fields vs=>strIs q vs[1]?
 | _=>false
theorem fieldIs_spec {q:Str} {d:Data} (h:fieldIs q d=true):∃ vs t,d= .fields vs∧vs[1]? =some (.str q t):=by
 cases d with
 | fields vs=>exact (strIs_spec h).elim fun t e=>⟨vs,t,rfl,e⟩
 | _=>exact fat h
noncomputable def objIs (f:Obj→Bool) (o:Option Obj):Bool:=match o with
 | some o=>f o
 | none=>false
theorem objIs_spec {f:Obj→Bool} {o:Option Obj} (h:objIs f o=true):∃ x,o=some x∧f x=true:=by
 cases o with
 | none=>exact fat h
 | some o=>exact ⟨o,rfl,h⟩
noncomputable def recChk (K:Frag) (cd:Value) (q:Str):Bool:=match cd with
 | .ref c=>objIs (fun o=>fieldIs q o.data) (K.lookup c)
 | _=>false
theorem Vf {K:Frag} {h:Heap} (X:K.In h) {cd:Value} {q:Str} (e:recChk K cd q=true):h.CodeRec cd q:=by
 cases cd with
 | ref c=>
  refine oEA (objIs_spec e) fun o ho h=> ?_
  refine oEEA (fieldIs_spec h) fun vs t hd hv=> ?_
  exact ⟨c,o,vs,t,rfl,X _ _ ho,hd,hv⟩
 | _=>exact fat e
structure FnK (K:Frag) (a:Addr) (w:WF):Prop where
 fn:fnIn K a=true
 body:(fdOf K a).body= .stmts w.root
 code:(fdOf K a).code=w.code
 gl:(fdOf K a).globals=mainGlobals
 bl:(fdOf K a).builtins=builtinsNs
 rc:recChk K (fdOf K a).code (fdOf K a).qualname=true
structure FnP (K:Frag) (a:Addr) (F:Fun) (w:WF) (gs:List Nat):Prop extends FnK K a w where
 nms:namesChk (fdOf K a).scope w.ln gs=true
noncomputable def zipN (F:Fun) (w:WF) (vs:List Value):List (Str × Value):=((w.ln.take F.n).map Str.ofString).zip vs
structure FnB (K:Frag) (a:Addr) (F:Fun) (w:WF):Prop where
 bind:AllL F.n fun vs=>bindArgs (fdOf K a) ⟨vs,[]⟩=pure (zipN F w vs)
structure FnC (K:Frag) (a:Addr) (F:Fun) (w:WF) (gs:List Nat):Prop extends FnK K a w where
 nms:∀ L:Nat,namesChkC (fdOf K a).scope w.ln gs (cellsFrom (L+1) (fdOf K a).scope.names [])=true
 clo:(fdOf K a).closure=[]
 slot:(w.ln.zipIdx.all fun x=>match (fdOf K a).scope.names.lookup (Str.ofString x.1) with | some .local=>w.a x.2 | some .cell=> !w.a x.2 | _=>false)=true
structure FnS (F:Fun) (w:WF) (gs:List Nat):Prop where
 body:w.root=embSs (mkEm w.ln w.root) F.body
 wf:wfSs w F.body=true
 g:∀ x,w.g x=true→x∈gs
 nd:(w.ln.map Str.ofString).Nodup
 np:F.n≤w.ln.length
 dbg:(w.ln.all fun nm=> !(Str.ofString nm==("__debug__" :Str)))=true
 gdbg:(gs.all fun x=> !(theNm x==("__debug__" :Str)))=true
noncomputable def DBind (K:Frag) (fd:FuncData) (F:Fun) (w:WF) (items:List Value) (m:Nat):Prop:=AllL m fun vs=>∀ st:Setting,PySem.W.peek K st (bindArgs fd ⟨vs,[]⟩)=some (zipN F w (vs++items.drop (m - (F.n - items.length))))
set_option tactic.hygienic true in
theorem Zu {x:Nat}:∀ {l:List Nat},memN x l=true→x∈l
 | [],h=>by exact fat h
 | y::r,h=>by
  rw [memN] at h
  split at h
  ·rename_i q;rw [Qy q];exact Qk ..
  ·exact Qj _ (Zu h)
theorem fs_Pi:FnS f_Pi w_Pi g_Pi:=⟨body_Pi,by decide+kernel,fun x h=>Zu h,by decide+kernel,by decide+kernel,by decide+kernel,by decide+kernel⟩
theorem fs_Pl:FnS f_Pl w_Pl g_Pl:=⟨body_Pl,by decide+kernel,fun x h=>Zu h,by decide+kernel,by decide+kernel,by decide+kernel,by decide+kernel⟩
theorem fs_Ii:FnS f_Ii w_Ii g_Ii:=⟨body_Ii,by decide+kernel,fun x h=>Zu h,by decide+kernel,by decide+kernel,by decide+kernel,by decide+kernel⟩
theorem fs_rt:FnS f_rt w_rt g_rt:=⟨body_rt,by decide+kernel,fun x h=>Zu h,by decide+kernel,by decide+kernel,by decide+kernel,by decide+kernel⟩
theorem fs_Gi:FnS f_Gi w_Gi g_Gi:=⟨body_Gi,by decide+kernel,fun x h=>Zu h,by decide+kernel,by decide+kernel,by decide+kernel,by decide+kernel⟩
theorem fs_Gsp:FnS f_Gsp w_Gsp g_Gsp:=⟨body_Gsp,by decide+kernel,fun x h=>Zu h,by decide+kernel,by decide+kernel,by decide+kernel,by decide+kernel⟩
theorem fs_Gap:FnS f_Gap w_Gap g_Gap:=⟨body_Gap,by decide+kernel,fun x h=>Zu h,by decide+kernel,by decide+kernel,by decide+kernel,by decide+kernel⟩
theorem fs_Gss:FnS f_Gss w_Gss g_Gss:=⟨body_Gss,by decide+kernel,fun x h=>Zu h,by decide+kernel,by decide+kernel,by decide+kernel,by decide+kernel⟩
theorem fs_Gup:FnS f_Gup w_Gup g_Gup:=⟨body_Gup,by decide+kernel,fun x h=>Zu h,by decide+kernel,by decide+kernel,by decide+kernel,by decide+kernel⟩
theorem fs_Gf:FnS f_Gf w_Gf g_Gf:=⟨body_Gf,by decide+kernel,fun x h=>Zu h,by decide+kernel,by decide+kernel,by decide+kernel,by decide+kernel⟩
theorem fs_Gcfx:FnS f_Gcfx w_Gcfx g_Gcfx:=⟨body_Gcfx,by decide+kernel,fun x h=>Zu h,by decide+kernel,by decide+kernel,by decide+kernel,by decide+kernel⟩
theorem fs_Gcf:FnS f_Gcf w_Gcf g_Gcf:=⟨body_Gcf,by decide+kernel,fun x h=>Zu h,by decide+kernel,by decide+kernel,by decide+kernel,by decide+kernel⟩
theorem fs_Gbl:FnS f_Gbl w_Gbl g_Gbl:=⟨body_Gbl,by decide+kernel,fun x h=>Zu h,by decide+kernel,by decide+kernel,by decide+kernel,by decide+kernel⟩
theorem fs_d:FnS f_d w_d g_d:=⟨body_d,by decide+kernel,fun x h=>Zu h,by decide+kernel,by decide+kernel,by decide+kernel,by decide+kernel⟩
theorem fs_t:FnS f_t w_t g_t:=⟨body_t,by decide+kernel,fun x h=>Zu h,by decide+kernel,by decide+kernel,by decide+kernel,by decide+kernel⟩
theorem fs_Li:FnS f_Li w_Li g_Li:=⟨body_Li,by decide+kernel,fun x h=>Zu h,by decide+kernel,by decide+kernel,by decide+kernel,by decide+kernel⟩
theorem fs_Llc:FnS f_Llc w_Llc g_Llc:=⟨body_Llc,by decide+kernel,fun x h=>Zu h,by decide+kernel,by decide+kernel,by decide+kernel,by decide+kernel⟩
theorem fs_Llg:FnS f_Llg w_Llg g_Llg:=⟨body_Llg,by decide+kernel,fun x h=>Zu h,by decide+kernel,by decide+kernel,by decide+kernel,by decide+kernel⟩
theorem fs_Lli:FnS f_Lli w_Lli g_Lli:=⟨body_Lli,by decide+kernel,fun x h=>Zu h,by decide+kernel,by decide+kernel,by decide+kernel,by decide+kernel⟩
theorem fs_Lcnn:FnS f_Lcnn w_Lcnn g_Lcnn:=⟨body_Lcnn,by decide+kernel,fun x h=>Zu h,by decide+kernel,by decide+kernel,by decide+kernel,by decide+kernel⟩
theorem fs_Lfnt:FnS f_Lfnt w_Lfnt g_Lfnt:=⟨body_Lfnt,by decide+kernel,fun x h=>Zu h,by decide+kernel,by decide+kernel,by decide+kernel,by decide+kernel⟩
theorem fs_Ldr:FnS f_Ldr w_Ldr g_Ldr:=⟨body_Ldr,by decide+kernel,fun x h=>Zu h,by decide+kernel,by decide+kernel,by decide+kernel,by decide+kernel⟩
theorem fs_Lrr:FnS f_Lrr w_Lrr g_Lrr:=⟨body_Lrr,by decide+kernel,fun x h=>Zu h,by decide+kernel,by decide+kernel,by decide+kernel,by decide+kernel⟩
theorem fs_Lcli:FnS f_Lcli w_Lcli g_Lcli:=⟨body_Lcli,by decide+kernel,fun x h=>Zu h,by decide+kernel,by decide+kernel,by decide+kernel,by decide+kernel⟩
theorem fs_Lcrs:FnS f_Lcrs w_Lcrs g_Lcrs:=⟨body_Lcrs,by decide+kernel,fun x h=>Zu h,by decide+kernel,by decide+kernel,by decide+kernel,by decide+kernel⟩
theorem fs_Lcfs:FnS f_Lcfs w_Lcfs g_Lcfs:=⟨body_Lcfs,by decide+kernel,fun x h=>Zu h,by decide+kernel,by decide+kernel,by decide+kernel,by decide+kernel⟩
theorem fs_Lal:FnS f_Lal w_Lal g_Lal:=⟨body_Lal,by decide+kernel,fun x h=>Zu h,by decide+kernel,by decide+kernel,by decide+kernel,by decide+kernel⟩
theorem fs_Lall:FnS f_Lall w_Lall g_Lall:=⟨body_Lall,by decide+kernel,fun x h=>Zu h,by decide+kernel,by decide+kernel,by decide+kernel,by decide+kernel⟩
theorem fs_Llpt:FnS f_Llpt w_Llpt g_Llpt:=⟨body_Llpt,by decide+kernel,fun x h=>Zu h,by decide+kernel,by decide+kernel,by decide+kernel,by decide+kernel⟩
theorem fs_l:FnS f_l w_l g_l:=⟨body_l,by decide+kernel,fun x h=>Zu h,by decide+kernel,by decide+kernel,by decide+kernel,by decide+kernel⟩
theorem fs_lsx:FnS f_lsx w_lsx g_lsx:=⟨body_lsx,by decide+kernel,fun x h=>Zu h,by decide+kernel,by decide+kernel,by decide+kernel,by decide+kernel⟩
theorem fs_lrx:FnS f_lrx w_lrx g_lrx:=⟨body_lrx,by decide+kernel,fun x h=>Zu h,by decide+kernel,by decide+kernel,by decide+kernel,by decide+kernel⟩
theorem fs_ls:FnS f_ls w_ls g_ls:=⟨body_ls,by decide+kernel,fun x h=>Zu h,by decide+kernel,by decide+kernel,by decide+kernel,by decide+kernel⟩
theorem fs_lr:FnS f_lr w_lr g_lr:=⟨body_lr,by decide+kernel,fun x h=>Zu h,by decide+kernel,by decide+kernel,by decide+kernel,by decide+kernel⟩
theorem fs_lf:FnS f_lf w_lf g_lf:=⟨body_lf,by decide+kernel,fun x h=>Zu h,by decide+kernel,by decide+kernel,by decide+kernel,by decide+kernel⟩
noncomputable def FnBind (G:Gl) (F:Fun) (fd:FuncData) (ln:List String):Prop:=∀ {S:Shared} {W:Wd} {args args':List AV} {vs:List Value},withDflt F.n F.dflt args=some args'→args'.length=F.n→VRels G W args vs→(∀ b o,G.B.get? b=some o→S.heap.get? b=some o)→
  ∃ us,VRels G W args' us∧BindsTo S fd ⟨vs,[]⟩ (((ln.take F.n).map Str.ofString).zip us)
section
variable {G:Gl} {K:Frag} {a:Addr} {F:Fun} {w:WF} {gs:List Nat}
theorem withDflt_nil {n:Nat} {args args':List AV} (h:withDflt n [] args=some args'):args'=args:=by
 walk_at "m m12 h h _"
 rw [Vq,List.drop_nil,app_eq,List.append_nil] at h
 refine e1 h ?_;rfl
theorem bind_of (b:FnB K a F w) (hd:F.dflt=[]):FnBind G F (fdOf K a) w.ln:=by
 intro S W args args' vs h hl hv _
 rw [hd] at h
 have:=withDflt_nil h
 subst this
 refine ⟨vs,hv,BindsTo.of_eq ?_⟩
 have hv:=hv.length
 exact b.bind.use vs (by lia)
theorem namesChk_spec {sc:Scope} {ln:List String} {gs:List Nat} (h:namesChk sc ln gs=true):sc.isCoroutine=false∧sc.isGenerator=false∧sc.kind= .function∧(∀ x∈sc.names,x.2≠ .cell)∧(∀ nm∈ln,sc.names.lookup (Str.ofString nm)=some .local)∧∀ x∈gs,sc.names.lookup (theNm x)=some .globalImplicit:=by
 unfold namesChk at h
 simp only [lkS_eq,Bool.and_eq_true,Bool.not_eq_true',List.all_eq_true,decide_eq_true_eq,decide_eq_false_iff_not] at h
 exact ⟨h.1.1.1.1.1,h.1.1.1.1.2,h.1.1.1.2,h.1.1.2,h.1.2,h.2⟩
theorem fnAt_of (hn:G.nm=theNm) (hs:G.P.strq=theStr) (hm:G.mA=mainGlobals) (hb:G.bA=builtinsNs) (k:FnP K a F w gs) (s:FnS F w gs) (ha:∀ x,w.a x=true ↔ x < w.ln.length) (b:FnBind G F (fdOf K a) w.ln):FnAt G F (fdOf K a) w.ln w:=by
 refine oAAAAA (namesChk_spec k.nms) fun n1 n2 n3 n4 n5 n6=> ?_
 have dbg:=Zz s.dbg
 have gdbg:=Zz s.gdbg
 refine ⟨?_,s.wf,n1,n2,n3,k.code,rfl,n4,fun nm h=>⟨n5 nm h,by simpa using dbg nm h⟩,s.nd,s.np,fun x h=> ?_,by rw [hm];exact k.gl,by rw [hb];exact k.bl,fun x h=>(ha x).mp h,fun x h=>(ha x).mpr h,b⟩
 ·rw [k.body,hn,hs];exact congrArg FuncBody.stmts s.body
 ·rw [hn];exact ⟨n6 x (s.g x h),by simpa using gdbg x (s.g x h)⟩
theorem namesChkC_spec {sc:Scope} {ln:List String} {gs:List Nat} {cl:List (Str × Addr)} (h:namesChkC sc ln gs cl=true):sc.isCoroutine=false∧sc.isGenerator=false∧sc.kind= .function∧(∀ nm∈ln,(sc.names.lookup (Str.ofString nm)=some .local∧cl.lookup (Str.ofString nm)=none)∨(sc.names.lookup (Str.ofString nm)=some .cell∧(cl.lookup (Str.ofString nm)).isSome=true))∧∀ x∈gs,sc.names.lookup (theNm x)=some .globalImplicit:=by
 unfold namesChkC at h
 simp only [lkS_eq,Bool.and_eq_true,Bool.or_eq_true,Bool.not_eq_true',List.all_eq_true,decide_eq_true_eq] at h
 exact ⟨h.1.1.1.1,h.1.1.1.2,h.1.1.2,h.1.2,h.2⟩
theorem fnAtC_of (hn:G.nm=theNm) (hs:G.P.strq=theStr) (hm:G.mA=mainGlobals) (hb:G.bA=builtinsNs) (k:FnC K a F w gs) (s:FnS F w gs) (b:FnB K a F w) (hd:F.dflt=[]) (ha:∀ x,w.a x=true→x < w.ln.length):FnAtC G F (fdOf K a) w.ln w:=by
 walk_at "e G K a F w gs|hn hs hm hb k s b hd ha"
 have N:=fun L=>namesChkC_spec (k.nms L)
 refine oAAAA (N 0) fun n1 n2 n3 uu n6=> ?_
 have dbg:=Zz s.dbg
 have gdbg:=Zz s.gdbg
 have sl:=Zz k.slot
 have at':∀ x nm,w.ln[x]? =some nm→(match (fdOf K a).scope.names.lookup (Str.ofString nm) with | some .local=>w.a x | some .cell=> !w.a x | _=>false)=true:=fun x nm e=>by
  have:=sl (nm,x) (List.mem_iff_getElem?.mpr ⟨x,by rw [List.getElem?_zipIdx,e];simp⟩)
  exact this
 refine ⟨?_,s.wf,n1,n2,n3,k.clo,k.code,rfl,fun nm h=>⟨?_,by simpa using dbg nm h⟩,s.nd,s.np,fun x h=> ?_,by rw [hm];exact k.gl,by rw [hb];exact k.bl,fun x h=> ?_,fun x nm e h=> ?_,hd,fun {vs} hv=>b.bind.use vs hv⟩
 ·rw [k.body,hn,hs];exact congrArg FuncBody.stmts s.body
 ·rcases (N 0).2.2.2.1 nm h with ⟨q,_⟩ | ⟨q,_⟩
  ·refine .inl ⟨q,fun L=> ?_⟩
   rcases (N L).2.2.2.1 nm h with ⟨_,r⟩ | ⟨r,_⟩
   ·exact r
   ·rw [q] at r;cases r
  ·refine .inr ⟨q,fun L=> ?_⟩
   rcases (N L).2.2.2.1 nm h with ⟨r,_⟩ | ⟨_,r⟩
   ·rw [q] at r;cases r
   ·exact r
 ·rw [hn];exact ⟨n6 x (s.g x h),by simpa using gdbg x (s.g x h)⟩
 ·have hx:=ha x h
  have e:w.ln[x]? =some w.ln[x]:=Qu hx
  refine ⟨_,e,?_⟩
  have:=at' x _ e
  split at this
  ·assumption
  ·rw [h] at this;exact fat this
  ·exact fat this
 ·have:=at' x nm e
  split at this
  ·rw [h] at this;exact fat this
  ·assumption
  ·exact fat this
end
theorem nameT_nodup:(nameT.map Str.ofString).Nodup:=by decide+kernel
theorem nameT_long:(nameT.all fun n=>Nat.blt 1 (Str.ofString n).cps.size)=true:=by decide+kernel
theorem theNm_inj (i j:Nat) (h:theNm i=theNm j):i=j:=by
 unfold theNm at h
 have big:∀ {k:Nat} {n:String},nameT[k]? =some n→1 < (Str.ofString n).cps.size:=fun {k n} e=>by
  have:=Zz nameT_long n (Qx e)
  rw [blt_eq] at this
  exact Qd this
 cases h1:nameT[i]? with
 | none=>
  cases h2:nameT[j]? with
  | none=>
   rw [h1,h2] at h
   have:=mkS_inj h
   simp only [List.cons.injEq,and_true] at this
   lia
  | some b=>
   rw [h1,h2] at h
   dsimp only at h
   have q:=big h2
   rw [←h] at q
   simp [mkS] at q
 | some a=>
  cases h2:nameT[j]? with
  | none=>
   rw [h1,h2] at h
   dsimp only at h
   have q:=big h1
   rw [h] at q
   simp [mkS] at q
  | some b=>
   rw [h1,h2] at h
   have e1:(nameT.map Str.ofString)[i]? =some (Str.ofString a):=by rw [List.getElem?_map,h1];rfl
   have e2:(nameT.map Str.ofString)[j]? =some (Str.ofString a):=by rw [List.getElem?_map,h2];exact congrArg some h.symm
   exact (List.getElem?_inj (Wn e1).1 nameT_nodup).mp (e1.trans e2.symm)
theorem LamAt.cong {G G':Gl} (h1:G.nm=G'.nm) (h2:G.P=G'.P) (h3:G.mA=G'.mA) (h4:G.bA=G'.bA) {F:Nat × CE} {ln:List String} {g:Nat→Bool} {fd:FuncData} (h:LamAt G F ln g fd):LamAt G' F ln g fd:=
 ⟨by rw [←h1,←h2];exact h.body,h.wf,h.co,h.gen,h.kind,h.cell,h.par,h.nd,by rw [←h1];exact h.glo,by rw [←h3];exact h.gl,by rw [←h4];exact h.bl,h.bind⟩
theorem CloIs.cong {G G':Gl} (h1:G.nm=G'.nm) (h2:G.P=G'.P) (h3:G.mA=G'.mA) (h4:G.bA=G'.bA) (F:Nat × CE) (ln:List String) (g:Nat→Bool):CloIs G F ln g=CloIs G' F ln g:=by
 funext vs pin a
 refine propext ⟨?_,?_⟩
 ·rintro ⟨o,fd,c,oc,cvs,t,q1,q2,q3,r⟩
  exact ⟨o,fd,c,oc,cvs,t,q1,q2,q3.cong h1 h2 h3 h4,r⟩
 ·rintro ⟨o,fd,c,oc,cvs,t,q1,q2,q3,r⟩
  exact ⟨o,fd,c,oc,cvs,t,q1,q2,q3.cong h1.symm h2.symm h3.symm h4.symm,r⟩
noncomputable def dictGet (d:Data) (x:Str):Option (Option Value):=match d with
 | .dict es _=>some (nsFind es x)
 | _=>none
theorem dictGet_spec {d:Data} {x:Str} {r:Option Value} (h:dictGet d x=some r):∃ es ep,d= .dict es ep∧nsFind es x=r:=by
 cases d <;> first | exact nos h | exact ⟨_,_,rfl,Qz h⟩
noncomputable def gGet (K:Frag) (a:Addr) (x:Str):Option (Option Value):=match K.lookup a with
 | some o=>dictGet o.data x
 | none=>none
theorem Uz {K:Frag} {h:Heap} (X:K.In h) {a:Addr} {m:Str→Option Value} (n:h.Ns a m) {x:Str} {r:Option Value} (e:gGet K a x=some r):m x=r:=by
 unfold gGet at e
 cases hl:K.lookup a with
 | none=>rw [hl] at e;exact nos e
 | some o'=>
  rw [hl] at e
  refine oEEA (dictGet_spec e) fun es ep hd e=> ?_
  refine Yd n fun o es' ep' h1 h2 uu h3=> ?_
  rw [X _ _ hl] at h1;(obtain rfl:=Qz h1)
  rw [hd] at h2
  cases h2
  exact (h3 x).symm.trans e
theorem Vu {r:Option (Option Value)} (h:isNN r=true):r=some none:=by
 cases r with
 | none=>exact fat h
 | some r=>
  cases r with
  | none=>rfl
  | some _=>exact fat h
theorem isRf_spec {r:Option (Option Value)} {a:Nat} (h:isRf a r=true):r=some (some (.ref a)):=by
 refine oEA (oo_spec h) fun v e h=> ?_
 rw [e,vRefIs_spec h]
noncomputable def vIntIs (i:Int) (v:Value):Bool:=match v with
 | .int j _=>decide (i=j)
 | _=>false
theorem vIntIs_spec {i:Int} {v:Value} (h:vIntIs i v=true):∃ t,v= .int i t:=by
 cases v <;> first | exact fat h | exact ⟨_,congrArg (fun x=>Value.int x _) (Qd h).symm⟩
noncomputable def isIn (i:Int) (r:Option (Option Value)):Bool:=oo (vIntIs i) r
theorem isIn_spec {r:Option (Option Value)} {i:Int} (h:isIn i r=true):∃ t,r=some (some (.int i t)):=by
 refine oEA (oo_spec h) fun v e h=> ?_
 refine oE (vIntIs_spec h) fun t q=> ?_
 exact ⟨t,by rw [e,q]⟩
noncomputable def isVal (v:Value) (r:Option (Option Value)):Bool:=match v with
 | .builtin s=>oo (bltIs s) r
 | .type s=>oo (typIs s) r
 | _=>false
theorem isVal_spec {r:Option (Option Value)} {v:Value} (h:isVal v r=true):r=some (some v):=by
 cases v with
 | builtin s=>
  refine oEA (oo_spec h) fun v e h=> ?_
  subst e
  cases v <;> first | exact fat h | exact congrArg (fun x=>some (some (Value.builtin x))) (beq_iff_eq.mp h).symm
 | type s=>
  refine oEA (oo_spec h) fun v e h=> ?_
  subst e
  cases v <;> first | exact fat h | exact congrArg (fun x=>some (some (Value.type x))) (beq_iff_eq.mp h).symm
 | _=>exact fat h
noncomputable def clsGChk (K:Frag) (C:Addr):Bool:=(match subIn K (.ref C) (.type "module") with | some false=>true | _=>false) && isNN (findIn K (.ref C) "__getattr__") &&
 (match clsIn K C with | some cd=>decide (cd.name.cps.foldl (fun k c=>k+(Str.utf8Of c).length) 0≤100) && decide (cd.name.toString.length≤50) | none=>false)
noncomputable def compChk (sc:Scope):Bool:=(sc.names.all fun x=> !decide (x.2= .free) && !decide (x.2= .cell) && (!decide (x.2= .local) || decide (sc.names.lookup x.1=some .local))) && decide (sc.kind= .function) && decide (sc.names.lookup (Str.ofString "p")=some .local)
noncomputable def vStrC (v:Value):Bool:=match v with | .str _ _=>true | _=>false
theorem vStrC_spec {v:Value} (h:vStrC v=true):∃ x t,v= .str x t:=by cases v <;> first | exact ⟨_,_,rfl⟩ | exact fat h
noncomputable def vIntC (v:Value):Bool:=match v with | .int _ _=>true | _=>false
theorem vIntC_spec {v:Value} (h:vIntC v=true):∃ x t,v= .int x t:=by cases v <;> first | exact ⟨_,_,rfl⟩ | exact fat h
noncomputable def vBooC (v:Value):Bool:=match v with | .bool _=>true | _=>false
theorem vBooC_spec {v:Value} (h:vBooC v=true):∃ x,v= .bool x:=by cases v <;> first | exact ⟨_,rfl⟩ | exact fat h
noncomputable def hdC (P:Nat) (vs:Array Value):Bool:=oo (vRefIs P) (some vs[11]?) && vRefIs P (vs.getD 11 .none) && vStrC (vs.getD 18 .none) && vIntC (vs.getD 7 .none) && (vBooC (vs.getD 9 .none) && vIntC (vs.getD 10 .none))
noncomputable def hdO (P:Nat) (o:Obj):Bool:=match o.cls with
 | .type t=>(match o.data with | .fields vs=>(t== "code") && hdC P vs | _=>false)
 | _=>false
theorem hdO_spec {P:Nat} {o:Obj} (h:hdO P o=true):∃ vs,o.cls= .type "code" ∧o.data= .fields vs∧hdC P vs=true:=by
 obtain ⟨c,a,d,sl⟩:=o
 cases c with
 | type t=>
  cases d with
  | fields vs=>have h:=bt1 h;exact ⟨vs,congrArg Value.type (beq_iff_eq.mp h.1),rfl,h.2⟩
  | _=>exact fat h
 | _=>exact fat h
noncomputable def hdChk (K:Frag) (c P:Nat):Bool:=objIs (hdO P) (K.lookup c)
theorem Vk {K:Frag} {c P:Nat} (h:hdChk K c P=true):∃ o vs file tf flags tg inF text tt,K.lookup c=some o∧o.cls= .type "code" ∧o.data= .fields vs∧vs[11]? =some (.ref P)∧vs.getD 11 .none= .ref P∧vs.getD 18 .none= .str file tf∧
  vs.getD 7 .none= .int flags tg∧vs.getD 9 .none= .bool inF∧vs.getD 10 .none= .int text tt:=by
 refine oEA (objIs_spec h) fun o e h=> ?_
 refine oEAA (hdO_spec h) fun vs h1 h2 h=> ?_
 have h:=bt4 h
 have q:=bt1 h.2
 refine oEA (oo_spec h.1.1.1.1) fun v e2 h3=> ?_
 refine oEE (vStrC_spec h.1.1.2) fun f tf e4=> ?_
 refine oEE (vIntC_spec h.1.2) fun fl tg e5=> ?_
 refine oE (vBooC_spec q.1) fun b e6=> ?_
 refine oEE (vIntC_spec q.2) fun x tt e7=> ?_
 exact ⟨o,vs,f,tf,fl,tg,b,x,tt,e,h1,h2,(Qz e2).trans (congrArg some (vRefIs_spec h3)),vRefIs_spec h.1.1.1.2,e4,e5,e6,e7⟩
structure KF (K:Frag):Prop where
 chk_all:(clsT.all fun c=>match assoc c.1 gadT with | some C=>clsChk K C c.2 | none=>false)=true
 fk_Pi:FnP K 55 f_Pi w_Pi g_Pi
 fk_Pl:FnP K 76 f_Pl w_Pl g_Pl
 fb_Pl:FnB K 76 f_Pl w_Pl
 fk_Ii:FnP K 104 f_Ii w_Ii g_Ii
 fb_Ii:FnB K 104 f_Ii w_Ii
 fk_rt:FnP K 132 f_rt w_rt g_rt
 fb_rt:FnB K 132 f_rt w_rt
 fk_Gi:FnP K 158 f_Gi w_Gi g_Gi
 fb_Gi:FnB K 158 f_Gi w_Gi
 fk_Gsp:FnP K 179 f_Gsp w_Gsp g_Gsp
 fb_Gsp:FnB K 179 f_Gsp w_Gsp
 fk_Gap:FnP K 187 f_Gap w_Gap g_Gap
 fk_Gss:FnP K 195 f_Gss w_Gss g_Gss
 fk_Gup:FnP K 237 f_Gup w_Gup g_Gup
 fb_Gup:FnB K 237 f_Gup w_Gup
 fk_Gf:FnP K 244 f_Gf w_Gf g_Gf
 fb_Gf:FnB K 244 f_Gf w_Gf
 fk_Gcfx:FnP K 251 f_Gcfx w_Gcfx g_Gcfx
 fb_Gcfx:FnB K 251 f_Gcfx w_Gcfx
 fk_Gcf:FnP K 259 f_Gcf w_Gcf g_Gcf
 fk_Gbl:FnP K 266 f_Gbl w_Gbl g_Gbl
 fb_Gbl:FnB K 266 f_Gbl w_Gbl
 fk_d:FnP K 280 f_d w_d g_d
 fb_d:FnB K 280 f_d w_d
 fk_t:FnP K 287 f_t w_t g_t
 fb_t:FnB K 287 f_t w_t
 fk_Li:FnP K 313 f_Li w_Li g_Li
 fb_Li:FnB K 313 f_Li w_Li
 fk_Llc:FnP K 320 f_Llc w_Llc g_Llc
 fb_Llc:FnB K 320 f_Llc w_Llc
 fk_Llg:FnP K 327 f_Llg w_Llg g_Llg
 fb_Llg:FnB K 327 f_Llg w_Llg
 fk_Lli:FnP K 334 f_Lli w_Lli g_Lli
 fb_Lli:FnB K 334 f_Lli w_Lli
 fk_Lcnn:FnP K 341 f_Lcnn w_Lcnn g_Lcnn
 fb_Lcnn:FnB K 341 f_Lcnn w_Lcnn
 fk_Lfnt:FnP K 348 f_Lfnt w_Lfnt g_Lfnt
 fb_Lfnt:FnB K 348 f_Lfnt w_Lfnt
 fk_Ldr:FnP K 355 f_Ldr w_Ldr g_Ldr
 fb_Ldr:FnB K 355 f_Ldr w_Ldr
 fk_Lrr:FnP K 362 f_Lrr w_Lrr g_Lrr
 fb_Lrr:FnB K 362 f_Lrr w_Lrr
 fk_Lcli:FnP K 369 f_Lcli w_Lcli g_Lcli
 fb_Lcli:FnB K 369 f_Lcli w_Lcli
 fk_Lcrs:FnC K 376 f_Lcrs w_Lcrs g_Lcrs
 fb_Lcrs:FnB K 376 f_Lcrs w_Lcrs
 fk_Lcfs:FnC K 383 f_Lcfs w_Lcfs g_Lcfs
 fb_Lcfs:FnB K 383 f_Lcfs w_Lcfs
 fk_Lal:FnP K 390 f_Lal w_Lal g_Lal
 fb_Lal:FnB K 390 f_Lal w_Lal
 fk_Lall:FnP K 397 f_Lall w_Lall g_Lall
 fb_Lall:FnB K 397 f_Lall w_Lall
 fk_Llpt:FnP K 404 f_Llpt w_Llpt g_Llpt
 fb_Llpt:FnB K 404 f_Llpt w_Llpt
 fk_l:FnP K 461 f_l w_l g_l
 fb_l:FnB K 461 f_l w_l
 fk_lsx:FnP K 426 f_lsx w_lsx g_lsx
 fb_lsx:FnB K 426 f_lsx w_lsx
 fk_lrx:FnP K 433 f_lrx w_lrx g_lrx
 fb_lrx:FnB K 433 f_lrx w_lrx
 fk_ls:FnP K 440 f_ls w_ls g_ls
 fb_ls:FnB K 440 f_ls w_ls
 fk_lr:FnP K 447 f_lr w_lr g_lr
 fb_lr:FnB K 447 f_lr w_lr
 fk_lf:FnP K 454 f_lf w_lf g_lf
 fb_lf:FnB K 454 f_lf w_lf
 d_Pi:∀ m:Nat,4≤m→m≤8→DBind K (fdOf K 55) f_Pi w_Pi [.ref 47,.none,.str "" 242,.int 0 243] m
 d_Gap:∀ m:Nat,3≤m→m≤6→DBind K (fdOf K 187) f_Gap w_Gap [.none,.str "" 439,.int 0 440] m
 d_Gss:∀ m:Nat,1≤m→m≤2→DBind K (fdOf K 195) f_Gss w_Gss [.none] m
 d_Gcf:∀ m:Nat,1≤m→m≤2→DBind K (fdOf K 259) f_Gcf w_Gcf [.none] m
 glob_chk:(globT.all fun e=>match e.2 with
  | .glo k=>(match assoc k gadT with | some a=>isRf a (gGet K mainGlobals (theNm e.1)) | none=>false)
  | .int i=>isIn i (gGet K mainGlobals (theNm e.1))
  | _=>false)=true
 blt_chk:((bltOf theN).all fun q=>isNN (gGet K mainGlobals (theNm q.1)) && isVal q.2 (gGet K builtinsNs (theNm q.1)) && (assoc q.1 globT).isNone)=true
 law_at:gGet K mainGlobals (Str.ofString "law")=some (some (.ref 461))
 bm_chk:isRf 4 (gGet K mainGlobals "__builtins__")=true
 bm_obj:K.lookup 4=some ⟨.type "module",some builtinsNs,.plain,#[]⟩
 alias_obj:K.lookup 412=some (dictOf [] 0)
 sys_chk:(K.lookup sysModules).isSome=true
 clsG_all:(clsT.all fun c=>match assoc c.1 gadT with | some C=>clsGChk K C | none=>false)=true
 tab_hd0:hdChk K 54 50=true
 tab_hd1:hdChk K 375 371=true
 tab_hd2:hdChk K 382 378=true
 ways_body:(fdOf K 419).body= .stmts (func "_law_ways")
 ways_fn:fnIn K 419=true
 ways_rc:recChk K (fdOf K 419).code (fdOf K 419).qualname=true
 ways_bind:bindArgs (fdOf K 419) ⟨[],[]⟩=pure []
 ways_nms:namesChk (fdOf K 419).scope [] []=true
 place_fn:fnIn K 26=true
 place_rc:recChk K (fdOf K 26).code (fdOf K 26).qualname=true
 place_bind:∀ v:Value,bindArgs (fdOf K 26) ⟨[v],[]⟩=pure [(Str.ofString "items",v)]
 place_nms:namesChk (fdOf K 26).scope ["items"] [2]=true
 place_gl:(fdOf K 26).globals=mainGlobals∧(fdOf K 26).builtins=builtinsNs
 place_body:(fdOf K 26).body= .stmts (func "place_of")
structure HP where
 prog:Program
 w:World
 B:Heap
 K:Frag
 f:Int
 s:Int
 gens:Array GenState
 drawn:Drawn
 os:OsState
theorem neC:Nonempty HP:=neW.elim fun w=>⟨⟨default,w,default,[],0,0,#[],{},default⟩⟩
noncomputable def tabT:Nat→Addr
 | 0=>50
 | 1=>371
 | _=>378
noncomputable def gl0 (h:HP):Gl where
 prog:=h.prog
 w:=h.w
 B:=h.B
 K:=h.K
 P:=P1
 nm:=theNm
 nmInj:=theNm_inj
 gad:=fun k=>(assoc k gadT).map Value.ref
 rho:=theRho h.f h.s
 actp:=theAct h.f h.s
 clop:=fun uu uu uu uu=>False
 cloMono:=fun uu uu uu uu uu h uu=>h
 gens:=h.gens
 drawn:=h.drawn
 os:=h.os
 mA:=mainGlobals
 bA:=builtinsNs
 okA:=okAttr
 tabA:=tabT
 tabOk:=theTab
noncomputable def clopT (h:HP):Nat→List Value→List (Addr × Obj)→Addr→Prop
 | 0=>CloIs (gl0 h) clos0 lc0 fun uu=>false
 | 1=>CloIs (gl0 h) clos1 lc1 fun uu=>false
 | 2=>CloIs (gl0 h) clos2 lc2 fun uu=>false
 | 3=>CloIs (gl0 h) clos3 lc3 fun uu=>false
 | _=>fun uu uu uu=>False
theorem clopT_mono (h:HP) (k:Nat) (vs:List Value) (p p':List (Addr × Obj)) (a:Addr) (x:clopT h k vs p a) (m:∀ x∈p,x∈p'):clopT h k vs p' a:=by
 rcases k with _ | _ | _ | _ | k
 ·exact CloIs.mono x m
 ·exact CloIs.mono x m
 ·exact CloIs.mono x m
 ·exact CloIs.mono x m
 ·exact x
noncomputable def theG (h:HP):Gl:={ gl0 h with clop:=clopT h,cloMono:=clopT_mono h }
theorem clop_ok (h:HP):ClopOk (theG h):=
 ⟨CloIs.cong (G:=gl0 h) (G':=theG h) rfl rfl rfl rfl _ _ _,CloIs.cong (G:=gl0 h) (G':=theG h) rfl rfl rfl rfl _ _ _,CloIs.cong (G:=gl0 h) (G':=theG h) rfl rfl rfl rfl _ _ _,CloIs.cong (G:=gl0 h) (G':=theG h) rfl rfl rfl rfl _ _ _⟩
structure HOk (h:HP):Prop where
 kin:h.K.In h.B
 kf:KF h.K
 mg:∃ mg,h.B.Ns mainGlobals mg
 mb:∃ mb,h.B.Ns builtinsNs mb
 lim:h.B.NoLimit
 tab:∀ t,h.B.get? (tabT t)=none
theorem okA_meth:(clsT.all fun c=>c.2.meths.all fun m=> !okAttr m.1)=true:=by decide+kernel
theorem isFnT_spec {r:Option Value} (h:isFnT r=true):r=some (.type "function"):=by
 cases r with
 | none=>exact fat h
 | some v=>rw [typIs_spec h]
theorem methChk_spec {K:Frag} {C:Addr} {x:Str} {f:Nat} (h:methChk K C x f=true):∃ a,assoc f gadT=some a∧findIn K (.ref C) x=some (some (.ref a))∧typeIn K (.ref a)=some (.type "function"):=by
 unfold methChk at h
 cases e:assoc f gadT with
 | none=>rw [e] at h;exact fat h
 | some a=>
  rw [e] at h
  have h:=bt1 h
  exact ⟨a,rfl,isRf_spec h.1,isFnT_spec h.2⟩
set_option tactic.hygienic true in
theorem findM_mem {k f:Nat} {l:List (Nat × Nat)}:findM k l=some f→(k,f)∈l:=by
 induction l with
 | nil=>exact fun h=>nos h
 | cons e r ih=>
  intro h
  refine zBo h (fun h q=> ?_) fun h uu=> .tail _ (ih h)
  refine e1 h ?_
  rw [←Qy q]
  exact .head _
section
variable {h:HP}
set_option tactic.hygienic true in
theorem cls_at (H:HOk h) {c:Nat} {Cl:Cls} (hc:(theG h).P.cls c=some Cl):∃ C,assoc c gadT=some C∧clsChk h.K C Cl=true∧clsGChk h.K C=true∧(Cl.meths.all fun m=> !okAttr m.1)=true:=by
 have hm:=assoc_mem (show assoc c clsT=some Cl from hc)
 have h1:=Zz (H.kf.chk_all) _ hm
 have h2:=Zz (H.kf.clsG_all) _ hm
 have h3:=Zz okA_meth _ hm
 split at h1
 ·rename_i C e
  rw [e] at h2
  exact ⟨C,e,h1,h2,h3⟩
 ·exact fat h1
theorem gok (H:HOk h):GOk (theG h) where
 kin:=H.kin
 len:=fun c Cl a hc hl hg=>by
  refine oEAA (cls_at H hc) fun C e h1 uu=> ?_
  have:(assoc c gadT).map Value.ref=some (.ref a):=hg
  rw [e] at this
  cases this
  unfold clsChk at h1
  rw [hl] at h1
  simp only [Bool.and_eq_true] at h1
  exact ⟨Vu h1.2.1,Vu h1.2.2⟩
 sys:=by
  refine oE (Option.isSome_iff_exists.mp (H.kf.sys_chk)) fun o ho=> ?_
  exact ⟨o,H.kin _ _ ho⟩
 way:=fun k v hk hr=>by
  have hr:theRho h.f h.s k v:=hr
  have key:∀ j,theRho h.f h.s (2 * j) v→j < 3→∃ x t,v= .str (mkS x) t∧(x=[108,101,102,116]∨x=[114,105,103,104,116]∨x=[110,111,110,97,115,115,111,99]):=fun j q hj=>by
   refine oE ((rho_way hj).mp q) fun t e=> ?_
   refine ⟨_,t,e,?_⟩
   unfold wayOf wayS
   split
   ·exact .inl rfl
   ·split
    ·exact .inr (.inl rfl)
    ·exact .inr (.inr rfl)
  unfold isWay at hk
  split at hk
  ·exact key 0 hr (by lia)
  ·exact key 1 hr (by lia)
  ·exact key 2 hr (by lia)
  ·exact fat hk
 nal:=⟨412,0,rfl,H.kin _ _ (H.kf.alias_obj),rfl⟩
theorem isSA_spec {r:Option (Option Value)} (h:isSA r=true):r=some (some (.builtin "object.__setattr__")):=by
 refine oEA (oo_spec h) fun v e h=> ?_
 rw [e,bltIs_spec h]
set_option tactic.hygienic true in
theorem gcls (H:HOk h):GCls (theG h) where
 cls:=fun c Cl hc=>by
  walk_at "e h|H|c Cl|hc"
  refine oEAAA (cls_at H hc) fun C e h1 _ h3=> ?_
  refine ⟨C,by refine (?_:(assoc c gadT).map Value.ref=_);rw [e];rfl,?_,?_⟩
  ·unfold clsChk at h1
   simp only [Bool.and_eq_true] at h1
   obtain ⟨⟨⟨⟨⟨⟨⟨⟨q1,q2⟩,q3⟩,q4⟩,q5⟩,q6⟩,q7⟩,q8⟩,q9⟩:=h1
   refine ⟨fun _=>q1,q2,isSA_spec q3,q4,fun k hk=> ?_⟩
   have hk:okAttr k=true:=hk
   have hlt:k < 100:=by
    unfold okAttr at hk
    simp only [Bool.and_eq_true] at hk
    have:=hk.1
    rw [blt_eq] at this
    exact Qd this
   have q:=Zz q6 k (List.mem_range.mpr hlt)
   rw [hk] at q
   simp only [Bool.not_true,Bool.false_or,Bool.and_eq_true,Bool.not_eq_true'] at q
   obtain ⟨⟨r1,r2⟩,r3⟩:=q
   refine ⟨Vu r1,r2,?_⟩
   split
   ·rename_i e2
    rw [e2] at r3
    exact Vu r3
   ·rename_i pv e2
    rw [e2] at r3
    dsimp only at r3
    cases pv with
    | int i=>
     refine oEA (oo_spec r3) fun v e3 r3=> ?_
     refine oEA (plInt_spec r3) fun t e4 r4=> ?_
     exact ⟨_,e3.trans (by rw [e4]),Vu r4,rfl,fun W=> .int _ _⟩
    | _=>exact fat r3
  ·unfold clsChk at h1
   simp only [Bool.and_eq_true] at h1
   obtain ⟨⟨⟨⟨⟨⟨⟨⟨q1,q2⟩,q3⟩,q4⟩,q5⟩,q6⟩,q7⟩,q8⟩,q9⟩:=h1
   refine ⟨fun k f hf=> ?_,q5,fun f hf=> ?_,?_⟩
   ·have hm:=findM_mem hf
    refine oEAA (methChk_spec (Zz q7 _ hm)) fun a e1 e2 e3=> ?_
    have:=Zz h3 _ hm
    exact ⟨a,by refine (?_:(assoc f gadT).map Value.ref=_);rw [e1];rfl,e2,e3,(show okAttr k=false from by simpa using this)⟩
   ·rw [hf] at q9
    refine oEAA (methChk_spec q9) fun a e1 e2 e3=> ?_
    exact ⟨a,by refine (?_:(assoc f gadT).map Value.ref=_);rw [e1];rfl,e2,e3⟩
   ·refine oEAA (methChk_spec q8) fun a e1 e2 e3=> ?_
    exact ⟨a,by refine (?_:(assoc _ gadT).map Value.ref=_);rw [e1];rfl,e2,e3⟩
set_option tactic.hygienic true in
theorem clsg (H:HOk h):ClsG (theG h) where
 cls:=fun c Cl CA hc hg=>by
  refine oEAAA (cls_at H hc) fun C e _ h1 _=> ?_
  have:(assoc c gadT).map Value.ref=some (.ref CA):=hg
  rw [e] at this
  cases this
  unfold clsGChk at h1
  simp only [Bool.and_eq_true] at h1
  obtain ⟨⟨q1,q2⟩,q3⟩:=h1
  refine ⟨?_,Vu q2,?_⟩
  ·split at q1 <;> first | assumption | exact fat q1
  ·split at q3
   ·rename_i cd e2
    simp only [Bool.and_eq_true,decide_eq_true_eq] at q3
    exact ⟨cd,e2,q3⟩
   ·exact fat q3
 sup:=by rfl
 ok:=(show okAttr theN.lr0_added=true from by decide+kernel)
set_option tactic.hygienic true in
theorem gnames (H:HOk h):GNames (theG h) theN where
 glob:=by
  refine oE (H.mg) fun mg hmg=> ?_
  refine oE (H.mb) fun mb hmb=> ?_
  refine ⟨mg,mb,hmg,hmb,fun x v hx=> ?_,fun q hq=> ?_⟩
  ·have hm:=assoc_mem (show assoc x globT=some v from hx)
   have q:=Zz (H.kf.glob_chk) _ hm
   dsimp only at q
   split at q
   ·rename_i k
    split at q
    ·rename_i a e
     exact ⟨_,Uz H.kin hmg (isRf_spec q),fun W=> .glo (by refine (?_:(assoc k gadT).map Value.ref=_);rw [e];rfl)⟩
    ·exact fat q
   ·rename_i i
    refine oE (isIn_spec q) fun t e=> ?_
    exact ⟨_,Uz H.kin hmg e,fun W=> .int _ _⟩
   ·exact fat q
  ·have q:=Zz (H.kf.blt_chk) _ hq
   simp only [Bool.and_eq_true] at q
   obtain ⟨⟨q1,q2⟩,q3⟩:=q
   refine ⟨Uz H.kin hmg (Vu q1),Uz H.kin hmb (isVal_spec q2),?_⟩
   refine (?_:assoc q.1 globT=none)
   simpa using q3
 nolimit:=H.lim
theorem mnames:MNames (theG h) theN where
 l:=fun q hq=>by
  simp only [List.mem_cons,List.not_mem_nil,or_false] at hq
  rcases hq with rfl | rfl | rfl <;> rfl
 d:=fun q hq=>by
  simp only [List.mem_cons,List.not_mem_nil,or_false] at hq
  rcases hq with rfl | rfl <;> rfl
 s:=rfl
theorem rnames:RNames (theG h):=⟨rfl,rfl⟩
theorem whole (H:HOk h):Whole (theG h):=⟨gok H,gnames H,gcls H,fun uu q=>q,rfl⟩
theorem spec0:Spec0 (theG h) h.f h.s:=⟨rfl,rfl,rfl,rfl⟩
theorem tabg (H:HOk h):TabG (theG h) where
 mA:=rfl
 bA:=rfl
 mg:=by
  refine oE (H.mg) fun mg hmg=> ?_
  exact ⟨mg,hmg,4,_,Uz H.kin hmg (isRf_spec (H.kf.bm_chk)),by decide,by decide,H.kin _ _ (H.kf.bm_obj),rfl,rfl,rfl⟩
 none:=H.tab
 hd:=fun t ht=>by
  rcases t with _ | _ | _ | t
  ·refine oEEEEEEEEEA (Vk H.kf.tab_hd0) fun o vs file tf flags tg inF text tt q1 q=> ?_
   exact ⟨o,vs,file,tf,flags,tg,inF,text,tt,H.kin _ _ q1,q.1,q.2.1,q.2.2.1,q.2.2.2.1,q.2.2.2.2.1,q.2.2.2.2.2.1,q.2.2.2.2.2.2.1,q.2.2.2.2.2.2.2,(show (54:Nat)≠50 from by decide)⟩
  ·refine oEEEEEEEEEA (Vk H.kf.tab_hd1) fun o vs file tf flags tg inF text tt q1 q=> ?_
   exact ⟨o,vs,file,tf,flags,tg,inF,text,tt,H.kin _ _ q1,q.1,q.2.1,q.2.2.1,q.2.2.2.1,q.2.2.2.2.1,q.2.2.2.2.2.1,q.2.2.2.2.2.2.1,q.2.2.2.2.2.2.2,(show (375:Nat)≠371 from by decide)⟩
  ·refine oEEEEEEEEEA (Vk H.kf.tab_hd2) fun o vs file tf flags tg inF text tt q1 q=> ?_
   exact ⟨o,vs,file,tf,flags,tg,inF,text,tt,H.kin _ _ q1,q.1,q.2.1,q.2.2.1,q.2.2.2.1,q.2.2.2.2.1,q.2.2.2.2.2.1,q.2.2.2.2.2.2.1,q.2.2.2.2.2.2.2,(show (382:Nat)≠378 from by decide)⟩
  ·lia
 tok:=rfl
theorem ways_ex (H:HOk h):∃ p1 p2 p3 p4 p5 k1 k2 k3,(fdOf h.K 419).body= .stmts [.Return (some (.List [.Constant (.str (mkS [108,101,102,116])) k1 p1,.Constant (.str (mkS [114,105,103,104,116])) k2 p2,.Constant (.str (mkS [110,111,110,97,115,115,111,99])) k3 p3] p4)) p5]:=⟨_,_,_,_,_,_,_,_,H.kf.ways_body⟩
theorem place_ex (H:HOk h):∃ p k1 k2 sc,(fdOf h.K 26).body= .stmts (placeBody (theNm n_number) (theNm n_lr_index) p k1 k2 sc)∧compChk sc=true:=
 ⟨fun i=>List.getD [⟨0,0,0,0⟩,_,_,_,_,_,_,_,_,_,_,_,_,_,_] i ⟨0,0,0,0⟩,_,_,_,H.kf.place_body,by kernel_rfl⟩
theorem lawfns (H:HOk h):LawFns (theG h) where
 ways:=by
  walk_at "e h|H"
  refine oEA (fdOf_spec (H.kf.ways_fn)) fun o e1 e2=> ?_
  refine oAAAAA (namesChk_spec (H.kf.ways_nms)) fun n1 n2 n3 n4 uu uu=> ?_
  exact ⟨419,o,_,rfl,H.kin _ _ e1,e2,⟨ways_ex H,n1,n2,n3,n4,H.kf.ways_bind⟩,Vf H.kin (H.kf.ways_rc)⟩
theorem kit (H:HOk h):Kit (theG h) h.f h.s:=⟨whole H,mnames,spec0,tabg H,clop_ok h,lawfns H,clsg H,rnames⟩
theorem compChk_spec {sc:Scope} (e:compChk sc=true):(∀ x∈sc.names,x.2≠ .free)∧(∀ x∈sc.names,x.2≠ .cell)∧sc.kind= .function∧(∀ x∈sc.names,x.2= .local→sc.names.lookup x.1=some .local)∧sc.names.lookup (Str.ofString "p")=some .local:=by
 unfold compChk at e
 simp only [Bool.and_eq_true,Bool.or_eq_true,Bool.not_eq_true',List.all_eq_true,decide_eq_true_eq,decide_eq_false_iff_not] at e
 exact ⟨fun x hx=>(e.1.1 x hx).1.1,fun x hx=>(e.1.1 x hx).1.2,e.1.2,fun x hx q=>(e.1.1 x hx).2.resolve_left fun z=>z q,e.2⟩
theorem placeAt (H:HOk h):PlaceAt (theG h) (fdOf h.K 26):=by
 walk_at "e h|H"
 refine oAAAAA (namesChk_spec (H.kf.place_nms)) fun n1 n2 n3 n4 n5 n6=> ?_
 obtain ⟨p,k1,k2,sc,e,c⟩:=place_ex H
 refine ⟨⟨p,k1,k2,sc,e,compChk_spec c⟩,n1,n2,n3,n4,n5 _ (Qk ..),n6 2 (Qk ..),rfl,(H.kf.place_gl).1,(H.kf.place_gl).2,H.kf.place_bind,?_,?_⟩
 ·exact (show okAttr n_number=true from by decide+kernel)
 ·exact (show okAttr n_lr_index=true from by decide+kernel)
end
section
variable {G:Gl} {K:Frag} {a:Addr} {F:Fun} {w:WF} {gs:List Nat}
theorem bind_dflt {items:List Value} (X:K.In G.B) (hl:items.length=F.dflt.length) (hn:F.dflt.length≤F.n) (hr:∀ W,VRels G W F.dflt items)
  (hb:∀ m,F.n - F.dflt.length≤m→m≤F.n→DBind K (fdOf K a) F w items m):FnBind G F (fdOf K a) w.ln:=by
 intro S W args args' vs h hlen hv hB
 unfold withDflt at h
 simp only [Zd,Vq,app_eq] at h
 walk_at "m m12 h h hk"
 (obtain rfl:=Qz h)
 have hk:=Qh hk
 simp only [List.length_append,List.length_drop] at hlen
 have hvl:=hv.length
 have hm:args.length≤F.n:=by lia
 have e1:=(hb args.length (Nat.sub_le_iff_le_add.mpr (Nat.add_comm F.dflt.length _ ▸ Nat.sub_le_iff_le_add.mp hk)) hm).use vs hvl.symm
 have e3:F.dflt.length - (F.n - args.length)=args.length - (F.n - items.length):=by rw [hl];exact y1 hm hn
 refine ⟨vs++items.drop (args.length - (F.n - items.length)),?_,fun M A E Q hq=>(Looks.of_peek (X.keeps hB) (e1 _)).here hq⟩
 rw [e3]
 exact hv.append ((hr W).drop _)
end
theorem db_Pi (h:HP) (H:HOk h):FnBind (theG h) f_Pi (fdOf h.K 55) w_Pi.ln:=bind_dflt (F:=f_Pi) (w:=w_Pi) (items:=[.ref 47,.none,.str "" 242,.int 0 243]) H.kin rfl (by decide) (fun W=> .cons (.junk _) (.cons .non (.cons (.str [] _) (.cons (.int _ _) .nil)))) (H.kf.d_Pi)
theorem db_Gap (h:HP) (H:HOk h):FnBind (theG h) f_Gap (fdOf h.K 187) w_Gap.ln:=bind_dflt (F:=f_Gap) (w:=w_Gap) (items:=[.none,.str "" 439,.int 0 440]) H.kin rfl (by decide) (fun W=> .cons .non (.cons (.str [] _) (.cons (.int _ _) .nil))) (H.kf.d_Gap)
theorem db_Gss (h:HP) (H:HOk h):FnBind (theG h) f_Gss (fdOf h.K 195) w_Gss.ln:=bind_dflt (F:=f_Gss) (w:=w_Gss) (items:=[.none]) H.kin rfl (by decide) (fun W=> .cons .non .nil) (H.kf.d_Gss)
theorem db_Gcf (h:HP) (H:HOk h):FnBind (theG h) f_Gcf (fdOf h.K 259) w_Gcf.ln:=bind_dflt (F:=f_Gcf) (w:=w_Gcf) (items:=[.none]) H.kin rfl (by decide) (fun W=> .cons .non .nil) (H.kf.d_Gcf)
section
variable {h:HP}
theorem lt_iff {n:Nat} {l:List String} (e:l.length=n) (x:Nat):Nat.blt x n=true ↔ x < l.length:=by rw [blt_eq,e];exact ⟨Qd,Wj⟩
noncomputable def FnG (h:HP) (p:Nat × Fun):Prop:=∃ a o fd,(theG h).gad p.1=some (.ref a)∧(theG h).B.get? a=some o∧o.data= .func fd∧∀ Ee,EOk2 (theG h) okW Ee→CallAt (theG h) Ee p.2 a
theorem fuse (H:HOk h) {f:Nat} {a:Addr} {F:Fun} {w:WF} {gs:List Nat} (hg:(theG h).gad f=some (.ref a)) (hw:okW w) (k:FnP h.K a F w gs) (s:FnS F w gs) (ha:∀ x,w.a x=true ↔ x < w.ln.length) (b:FnBind (theG h) F (fdOf h.K a) w.ln):FnG h (f,F):=by
 refine oEA (fdOf_spec k.fn) fun o e1 e2=> ?_
 exact ⟨a,o,_,hg,H.kin _ _ e1,e2,fun Ee E=>by
  intro C W l s' S args vs v s'' R hh Rm I hr hv kk
  exact call_fn (gnames H) E (fnAt_of rfl rfl rfl rfl k s ha b) hw (H.kin _ _ e1) e2 (Vf H.kin k.rc) hh Rm I hr hv kk⟩
theorem fuseC (H:HOk h) {f:Nat} {a:Addr} {F:Fun} {w:WF} {gs:List Nat} (hg:(theG h).gad f=some (.ref a)) (hw:okW w) (k:FnC h.K a F w gs) (s:FnS F w gs) (b:FnB h.K a F w) (hd:F.dflt=[]) (ha:∀ x,w.a x=true→x < w.ln.length):FnG h (f,F):=by
 refine oEA (fdOf_spec k.fn) fun o e1 e2=> ?_
 exact ⟨a,o,_,hg,H.kin _ _ e1,e2,fun Ee E=>by
  intro C W l s' S args vs v s'' R hh Rm I hr hv kk
  exact call_fnC (gnames H) E (fnAtC_of rfl rfl rfl rfl k s b hd ha) hw (H.kin _ _ e1) e2 (Vf H.kin k.rc) hh Rm I hr hv kk⟩
theorem fuse2 (H:HOk h) {f:Nat} {a:Addr} {F:Fun} {w:WF} {gs:List Nat} (i:Nat) {n:Nat} (hi:(wT.map (·.2))[i]? =some w) (hg:(theG h).gad f=some (.ref a)) (k:FnP h.K a F w gs) (s:FnS F w gs) (ha:w.a=fun x=>Nat.blt x n) (hl:w.ln.length=n) (b:FnB h.K a F w) (hd:F.dflt=[]):FnG h (f,F):=
 fuse H hg (Qx hi) k s (fun x=>ha ▸ lt_iff hl x) (@bind_of _ _ _ _ _ b hd)
theorem aC {α:Type} {P:α→Prop} {a:α} {l:List α} (h:P a) (t:∀ x∈l,P x):∀ x∈a::l,P x:=List.forall_mem_cons.mpr ⟨h,t⟩
theorem aN {α:Type} {P:α→Prop}:∀ x∈([]:List α),P x:=fun uu h=>nomatch h
theorem fn_tab (H:HOk h) (f:Nat) (F:Fun) (hf:(theG h).P.fn f=some F):FnG h (f,F):=by
 have r:∀ x∈fnT,FnG h x:=by
  unfold fnT
  refine aC (fuse H rfl (Qx (i:=0) rfl) (H.kf.fk_Pi) fs_Pi (lt_iff rfl) (db_Pi h H)) ?_
  refine aC (fuse2 H 1 rfl rfl H.kf.fk_Pl fs_Pl rfl rfl H.kf.fb_Pl rfl) ?_
  refine aC (fuse2 H 2 rfl rfl H.kf.fk_Ii fs_Ii rfl rfl H.kf.fb_Ii rfl) ?_
  refine aC (fuse2 H 3 rfl rfl H.kf.fk_rt fs_rt rfl rfl H.kf.fb_rt rfl) ?_
  refine aC (fuse2 H 4 rfl rfl H.kf.fk_Gi fs_Gi rfl rfl H.kf.fb_Gi rfl) ?_
  refine aC (fuse2 H 5 rfl rfl H.kf.fk_Gsp fs_Gsp rfl rfl H.kf.fb_Gsp rfl) ?_
  refine aC (fuse H rfl (Qx (i:=6) rfl) (H.kf.fk_Gap) fs_Gap (lt_iff rfl) (db_Gap h H)) ?_
  refine aC (fuse H rfl (Qx (i:=7) rfl) (H.kf.fk_Gss) fs_Gss (lt_iff rfl) (db_Gss h H)) ?_
  refine aC (fuse2 H 8 rfl rfl H.kf.fk_Gup fs_Gup rfl rfl H.kf.fb_Gup rfl) ?_
  refine aC (fuse2 H 9 rfl rfl H.kf.fk_Gf fs_Gf rfl rfl H.kf.fb_Gf rfl) ?_
  refine aC (fuse2 H 10 rfl rfl H.kf.fk_Gcfx fs_Gcfx rfl rfl H.kf.fb_Gcfx rfl) ?_
  refine aC (fuse H rfl (Qx (i:=11) rfl) (H.kf.fk_Gcf) fs_Gcf (lt_iff rfl) (db_Gcf h H)) ?_
  refine aC (fuse2 H 12 rfl rfl H.kf.fk_Gbl fs_Gbl rfl rfl H.kf.fb_Gbl rfl) ?_
  refine aC (fuse2 H 13 rfl rfl H.kf.fk_d fs_d rfl rfl H.kf.fb_d rfl) ?_
  refine aC (fuse2 H 14 rfl rfl H.kf.fk_t fs_t rfl rfl H.kf.fb_t rfl) ?_
  refine aC (fuse2 H 15 rfl rfl H.kf.fk_Li fs_Li rfl rfl H.kf.fb_Li rfl) ?_
  refine aC (fuse2 H 16 rfl rfl H.kf.fk_Llc fs_Llc rfl rfl H.kf.fb_Llc rfl) ?_
  refine aC (fuse2 H 17 rfl rfl H.kf.fk_Llg fs_Llg rfl rfl H.kf.fb_Llg rfl) ?_
  refine aC (fuse2 H 18 rfl rfl H.kf.fk_Lli fs_Lli rfl rfl H.kf.fb_Lli rfl) ?_
  refine aC (fuse2 H 19 rfl rfl H.kf.fk_Lcnn fs_Lcnn rfl rfl H.kf.fb_Lcnn rfl) ?_
  refine aC (fuse2 H 20 rfl rfl H.kf.fk_Lfnt fs_Lfnt rfl rfl H.kf.fb_Lfnt rfl) ?_
  refine aC (fuse2 H 21 rfl rfl H.kf.fk_Ldr fs_Ldr rfl rfl H.kf.fb_Ldr rfl) ?_
  refine aC (fuse2 H 22 rfl rfl H.kf.fk_Lrr fs_Lrr rfl rfl H.kf.fb_Lrr rfl) ?_
  refine aC (fuse2 H 23 rfl rfl H.kf.fk_Lcli fs_Lcli rfl rfl H.kf.fb_Lcli rfl) ?_
  refine aC (fuseC H rfl (Qx (i:=24) rfl) (H.kf.fk_Lcrs) fs_Lcrs (H.kf.fb_Lcrs) rfl (fun x hx=>by have hx:=Zu hx;simp only [List.mem_cons,List.not_mem_nil,or_false] at hx;refine (?_:x < 7);lia)) ?_
  refine aC (fuseC H rfl (Qx (i:=25) rfl) (H.kf.fk_Lcfs) fs_Lcfs (H.kf.fb_Lcfs) rfl (fun x hx=>by have hx:=Zu hx;simp only [List.mem_cons,List.not_mem_nil,or_false] at hx;refine (?_:x < 7);lia)) ?_
  refine aC (fuse2 H 26 rfl rfl H.kf.fk_Lal fs_Lal rfl rfl H.kf.fb_Lal rfl) ?_
  refine aC (fuse2 H 27 rfl rfl H.kf.fk_Lall fs_Lall rfl rfl H.kf.fb_Lall rfl) ?_
  refine aC (fuse2 H 28 rfl rfl H.kf.fk_Llpt fs_Llpt rfl rfl H.kf.fb_Llpt rfl) ?_
  refine aC (fuse2 H 29 rfl rfl H.kf.fk_l fs_l rfl rfl H.kf.fb_l rfl) ?_
  refine aC (fuse2 H 30 rfl rfl H.kf.fk_lsx fs_lsx rfl rfl H.kf.fb_lsx rfl) ?_
  refine aC (fuse2 H 31 rfl rfl H.kf.fk_lrx fs_lrx rfl rfl H.kf.fb_lrx rfl) ?_
  refine aC (fuse2 H 32 rfl rfl H.kf.fk_ls fs_ls rfl rfl H.kf.fb_ls rfl) ?_
  refine aC (fuse2 H 33 rfl rfl H.kf.fk_lr fs_lr rfl rfl H.kf.fb_lr rfl) ?_
  refine aC (fuse2 H 34 rfl rfl H.kf.fk_lf fs_lf rfl rfl H.kf.fb_lf rfl) ?_
  exact aN
 exact r (f,F) (assoc_mem (show assoc f fnT=some F from hf))
theorem fnTab (H:HOk h):FnTab (theG h) okW where
 fn:=fn_tab H
 prim:=fun f args s r hf hp=>by
  have hp0:thePrim Pz f args s=some r:=hp
  have e:f=n_place_of:=by
   walk_at "m m12 hp0 hp0 q"
   exact Qy q
  subst e
  refine oEA (fdOf_spec (H.kf.place_fn)) fun o e1 e2=> ?_
  exact ⟨26,o,_,rfl,H.kin _ _ e1,e2,fun Ee E=>by
   intro C W l s' S args vs v s'' R hh Rm I hr hv kk
   skip
   skip
   exact call_place (whole H) (fun uu uu uu=>rfl) (placeAt H) (H.kin _ _ e1) e2 (Vf H.kin (H.kf.place_rc)) hh.1 Rm I hr hv kk⟩
theorem level_ok (H:HOk h) (n:Nat):EOk2 (theG h) okW (EV n):=lvl_ok (whole H) mnames (rare_ok (kit H)) (spec_ok (kit H)) (fnTab H) n
end
noncomputable def rhoA (f s:Int):Nat→AV
 | 9=> .int f
 | 10=> .int s
 | 6=> .int (levOf s 0)
 | 7=> .int (levOf s 1)
 | 8=> .int (levOf s 2)
 | 0=> .str (wayOf f s 0)
 | 2=> .str (wayOf f s 1)
 | 4=> .str (wayOf f s 2)
 | 1=> .int (levOf s 0+1)
 | 3=> .int (levOf s 1+1)
 | 5=> .int (levOf s 2+1)
 | _=> .junk
noncomputable def actA (f s:Int) (x y p j:Nat):AV:=
 if levOf s x < levOf s y∨(levOf s x=levOf s y∧wayN f (levOf s x)=1) then .int j
 else if levOf s x=levOf s y∧wayN f (levOf s x)=2 then .non
 else .int (-(p:Int))
mutual
noncomputable def concV (f s:Int):AV→AV
 | .sym k=>rhoA f s k
 | .act x y p j=>actA f s x y p j
 | .tup xs=> .tup (concVs f s xs)
 | v=>v
noncomputable def concVs (f s:Int):List AV→List AV
 | []=>[]
 | x::r=>concV f s x::concVs f s r
end
theorem Ux (f s:Int) (xs:List AV):concVs f s xs=xs.map (concV f s):=by
 induction xs with
 | nil=>rfl
 | cons x r ih=>exact congrArg (concV f s x:: ·) ih
noncomputable def concO (f s:Int):AO→AO
 | .attrs es=> .attrs (es.map fun e=>(e.1,concV f s e.2))
 | .list xs=> .list (concVs f s xs)
 | .dict es ep=> .dict (es.map fun e=>(e.1,concV f s e.2)) ep
 | o=>o
namespace Tr
noncomputable def map {α β:Type} (g:α→β):Tr α→Tr β
 | .nil=> .nil
 | .node v l r=> .node (v.map g) (map g l) (map g r)
theorem get_map {α β:Type} (g:α→β):∀ (t:Tr α) (i:Nat),(t.map g).get i=(t.get i).map g
 | .nil,i=>rfl
 | .node v l r,i=>by
  refine (?_:(node (v.map g) (map g l) (map g r)).get i=_)
  rw [get_node,get_node,get_map g l,get_map g r]
  by_cases h:i=0
  ·rw [if_pos h,if_pos h]
  ·rw [if_neg h,if_neg h];by_cases q:i % 2=1
   ·rw [if_pos q,if_pos q]
   ·rw [if_neg q,if_neg q]
end Tr
noncomputable def concS (f s:Int) (st:St):St:=⟨st.h.map (concO f s),st.nx⟩
section
variable {G:Gl} {f s:Int} {W:Wd}
theorem rho_conc {k:Nat} {v:Value} (h:theRho f s k v):VRel G W (rhoA f s k) v:=by
 walk_at "e G f s W k v|h"
 rcases k with _ | _ | _ | _ | _ | _ | _ | _ | _ | _ | _ | k <;> first | exact h.elim | ((refine oE h fun t q1z=> ?_;clear h;subst q1z);first | exact .int _ _ | exact .str _ _)
set_option tactic.hygienic true in
theorem act_conc {x y p j:Nat} {v:Value} (h:theAct f s x y p j v):VRel G W (actA f s x y p j) v:=by
 unfold theAct at h
 unfold actA
 split at h
 ·rename_i q;rw [if_pos q];(refine oE h fun t q1z=> ?_;clear h;subst q1z);exact .int _ _
 ·rename_i q
  rw [if_neg q]
  split at h
  ·rename_i q2;rw [if_pos q2];subst h;exact .non
  ·rename_i q2;rw [if_neg q2];(refine oE h fun t q1z=> ?_;clear h;subst q1z);exact .int _ _
theorem VRel.conc (Z:Spec0 G f s) {x:AV} {v:Value} (h:VRel G W x v):VRel G W (concV f s x) v:=
 VRel.rec (motive_1:=fun x v uu=>VRel G W (concV f s x) v) (motive_2:=fun xs vs uu=>VRels G W (concVs f s xs) vs) .non .boo .int .str (fun hp hc hd uu i=> .tup hp hc hd i) (fun h=> .ref h) (fun h=> .glo h) (fun h=>rho_conc (by rw [Z.rho] at h;exact h)) (fun h=>act_conc (by rw [Z.act] at h;exact h)) (fun h hc uu=> .clo h hc) .aint .junk .nil (fun uu uu a b=> .cons a b) h
theorem VRels.conc (Z:Spec0 G f s) {xs:List AV} {vs:List Value} (h:VRels G W xs vs):VRels G W (concVs f s xs) vs:=
 VRels.rec (motive_1:=fun x v uu=>VRel G W (concV f s x) v) (motive_2:=fun xs vs uu=>VRels G W (concVs f s xs) vs) .non .boo .int .str (fun hp hc hd uu i=> .tup hp hc hd i) (fun h=> .ref h) (fun h=> .glo h) (fun h=>rho_conc (by rw [Z.rho] at h;exact h)) (fun h=>act_conc (by rw [Z.act] at h;exact h)) (fun h hc uu=> .clo h hc) .aint .junk .nil (fun uu uu a b=> .cons a b) h
theorem Attrs.conc (Z:Spec0 G f s) {es:List (Nat × AV)} {ds:List DictEntry} (h:Attrs G W es ds):Attrs G W (es.map fun e=>(e.1,concV f s e.2)) ds:=by
 induction h with
 | nil=>exact .nil
 | cons hv _ ih=>exact .cons (hv.conc Z) ih
theorem Ents.conc (Z:Spec0 G f s) {es:List (AV × AV)} {ds:List DictEntry} (h:Ents G W es ds):Ents G W (es.map fun e=>(e.1,concV f s e.2)) ds:=by
 induction h with
 | nil=>exact .nil
 | cons hk hv _ ih=>exact .cons hk (hv.conc Z) ih
theorem OObj.conc (Z:Spec0 G f s) {o:AO} {co:Obj} (h:OObj G W o co):OObj G W (concO f s o) co:=by
 cases o with
 | inst c d=>exact h
 | attrs es=>
  refine Yg h fun ds n h1 h2 h3 h4=> ?_
  refine ⟨ds,n,h1,h2.conc Z,?_,fun e he=> ?_⟩
  ·rw [List.map_map];exact h3
  ·(refine oEA (List.mem_map.mp he) fun e' he' q2z=> ?_;subst q2z);exact h4 e' he'
 | list xs=>refine oEEA h fun vs n h1 h2=> ?_;exact ⟨vs,n,h1,h2.conc Z⟩
 | dict es ep=>
  refine oEAAA h fun ds h1 h2 h3 h4=> ?_
  refine ⟨ds,h1,h2.conc Z,fun e he=> ?_,?_⟩
  ·(refine oEA (List.mem_map.mp he) fun e' he' q2z=> ?_;subst q2z);exact h3 e' he'
  ·rw [List.map_map];exact h4
 | set xs=>exact h
 | tab k n=>exact h
theorem Inv.conc (Z:Spec0 G f s) {C:Cx} {l:Tr AV} {st:St} {S:Shared} (I:Inv G C W l st S):Inv G C W (l.map (concV f s)) (concS f s st) S:=by
 refine ⟨I.base,I.pin,I.keep,I.pk,I.kb,I.kn,fun n o e=> ?_,I.len,I.nodup,I.fresh,?_,I.locB,I.gens,I.drawn,I.os⟩
 ·have e:(st.h.map (concO f s)).get n=some o:=e
  rw [Tr.get_map] at e
  (refine oEA (Option.map_eq_some_iff.mp e) fun o' e1 q2z=> ?_;subst q2z)
  refine oEEAA (I.objs n o' e1) fun a co h1 h2 h3=> ?_
  exact ⟨a,co,h1,h2,h3.conc Z⟩
 ·refine oEA (I.loc) fun m h1 h2=> ?_
  refine ⟨m,h1,fun x v e=> ?_⟩
  rw [Tr.get_map] at e
  (refine oEA (Option.map_eq_some_iff.mp e) fun v' e1 q2z=> ?_;subst q2z)
  refine oEEAA (h2 x v' e1) fun nm cv q1 q2 q3=> ?_
  exact ⟨nm,cv,q1,q2,q3.conc Z⟩
theorem Inv.fewer {C:Cx} {l l':Tr AV} {st:St} {S:Shared} (I:Inv G C W l st S) (h:∀ x v,l'.get x=some v→∃ v0,l.get x=some v0∧∀ cv,VRel G W v0 cv→VRel G W v cv):Inv G C W l' st S:=by
 refine ⟨I.base,I.pin,I.keep,I.pk,I.kb,I.kn,I.objs,I.len,I.nodup,I.fresh,?_,I.locB,I.gens,I.drawn,I.os⟩
 refine oEA (I.loc) fun m h1 h2=> ?_
 refine ⟨m,h1,fun x v e=> ?_⟩
 refine oEA (h x v e) fun v0 e0 k=> ?_
 refine oEEAA (h2 x v0 e0) fun nm cv q1 q2 q3=> ?_
 exact ⟨nm,cv,q1,q2,k cv q3⟩
end
structure Scr (h:HP) (xs:List Int) (vs:List Value):Prop where
 ob:∃ m,h.B.get? 462=some { cls:= .type "list",data:= .seq vs.toArray m }
 iv:∀ W,VRels (theG h) W (xs.map AV.int) vs
 len:xs.length≤63
section
variable {h:HP} {xs:List Int} {vs:List Value} {C:Cx} {W:Wd} {l:Lo} {st:St} {S:Shared} {A:Around} {X:Value→Shared→Prop}
theorem scr_val {v:Value} (r:VRel (theG h) W (.glo 2000) v):v= .ref 462:=by
 cases r with
 | glo r=>
  have r:some (Value.ref 462)=some v:=r
  refine e1 r ?_;rfl
theorem Scr.list (Y:Scr h xs vs) (I:Inv (theG h) C W l.vs st S):S.heap.IsList 462 vs.toArray:=by
 refine oE (Y.ob) fun m e=> ?_
 exact ⟨_,I.base _ _ e,rfl,m,rfl⟩
theorem Scr.vlen (Y:Scr h xs vs):vs.length=xs.length:=by
 have:=(Y.iv ⟨[],[]⟩).length
 simpa using this.symm
theorem Scr.at (Y:Scr h xs vs) {i:Nat} {x:Int} (e:xs[i]? =some x):∃ t,vs[i]? =some (.int x t):=by
 refine oEA ((Y.iv ⟨[],[]⟩).get (n:=i) (x:= .int x) (by rw [List.getElem?_map,e];rfl)) fun v e1 r=> ?_
 cases r with | int _ t=>exact ⟨t,e1⟩
theorem scr_item (Y:Scr h xs vs) (F:Env1 (theG h) C w_l) (I:Inv (theG h) C W l.vs st S) (h0:l.get 0=some (.glo 2000)) {i k:Nat} {x:Int} (e:xs[i]? =some x) {p1 p2 p3:Pos} {Q:Value→Shared→Prop} (kk:∀ t tk,Q (.int x t) { S with toks:=tk }):
  wpAny (model h.prog h.w) C.A (eval (.Subscript (.Name (theLn C.ln 0) p1) (.Constant (.int (.ofNat i)) k p2) p3) C.env) Q X S:=by
 refine Subscript_ (I.load F.e h0 fun sv rs=>Qn ?_)
 have:=scr_val rs
 subst this
 have L:=Y.list (I.toks (tk:=S.toks+1))
 refine oE (Y.at e) fun t et=> ?_
 have hi:i < xs.length:=(Wn e).1
 have hlen:=Y.len
 refine Vn (G:=theG h) (S:={ S with toks:=S.toks+1 }) L.typeIs slot_list_getitem.lookup (wpAny_getItem_list L (Int.natCast_nonneg i) (by refine (?_:((i:Nat):Int) < 2 ^ 63);lia) (x:= .int x t) (by simpa using et) (kk t _))
theorem exs_append {env:Env}:∀ (a b:List Stmt),execs (a++b) env=(execs a env >>=fun f=>match f with | .next=>execs b env | f=>pure f)
 | [],b=>by rw [List.nil_append,execs_nil,pure_bind]
 | s::a,b=>by
  rw [List.cons_append,execs_cons,execs_cons,bind_assoc]
  refine congrArg _ (funext fun f=> ?_)
  cases f <;> first | exact exs_append a b | (rw [pure_bind])
theorem wp_append {M:Model} {env:Env} {a b:List Stmt} {Q:Flow→Shared→Prop} {s:Shared} (h:wpAny M A (execs a env) (fun f s'=>match f with | .next=>wpAny M A (execs b env) Q X s' | f=>Q f s') X s):wpAny M A (execs (a++b) env) Q X s:=by
 rw [exs_append]
 refine Qq (wpAny_mono h (fun f s' h'=> ?_) fun uu uu x=>x)
 cases f <;> first | exact h' | exact Qw h'
theorem embSs_append (m:Em):∀ (a b:List CS),embSs m (a++b)=embSs m a++embSs m b
 | [],_=>rfl
 | c::a,b=>congrArg (embS m c:: ·) (embSs_append m a b)
noncomputable def firstOf (xs:List Int):Int:=xs.headD 0
noncomputable def secondOf (xs:List Int):Int:=if 1 < xs.length then xs[1]?.getD 0 else 0
theorem st_first (H:HOk h) (Y:Scr h xs vs) (F:Env1 (theG h) C w_l) (R:Room C l.dep) (I:Inv (theG h) C W l.vs st S) (h0:l.get 0=some (.glo 2000)) {l':Lo} (hl':l.set 1 (.int (firstOf xs))=some l') {p1 p2 p3 p4 p5 p6 p7 p8:Pos} {Q:Flow→Shared→Prop} (kk:∀ S',Inv (theG h) C W l'.vs st S'→Q .next S'):
  wpAny (model h.prog h.w) C.A (exec (embS (C.em (theG h)) (.asgN 1 p1 (.ifx (.loc 0 p2) (.sub (.loc 0 p3) (.num 0 p4) p5) (.num 0 p6) p7) p8)) C.env) Q X S:=by
 have Wh:=whole H
 have hlen:=Y.len
 have hvl:=Y.vlen
 refine wpAny_Assign_Name (IfExp_ (isTrue_plain (I.load F.e h0 fun sv rs=> ?_) rfl)) rfl
 have:=scr_val rs
 subst this
 have sz:=Zv
 refine wpAny_truthy_list (Y.list I) (by simp;lia) ?_
 cases xs with
 | nil=>
  have e:vs=[]:=List.length_eq_zero_iff.mp hvl
  subst e
  refine Qn ?_
  exact Xx F (I.toks (tk:=_)) (by rfl) hl' (.int _ _) fun S' I'=>kk S' I'
 | cons x r=>
  have e:(!vs.toArray.isEmpty)=true:=by
   cases vs with
   | nil=>cases hvl
   | cons _ _=>rfl
  rw [e]
  refine scr_item Y F (I.toks (tk:=_)) h0 (i:=0) (x:=x) rfl fun t tk=> ?_
  exact Xx F I.toks (by rfl) hl' (.int _ _) fun S' I'=>kk S' I'
theorem st_second (H:HOk h) (Y:Scr h xs vs) (F:Env1 (theG h) C w_l) (R:Room C l.dep) (I:Inv (theG h) C W l.vs st S) (h0:l.get 0=some (.glo 2000)) {l':Lo} (hl':l.set 2 (.int (secondOf xs))=some l') {p1 p2 p3 p4 p5 p6 p7 p8 p9 p10 p11 p12:Pos} {Q:Flow→Shared→Prop} (kk:∀ W' S',W.le W'→Inv (theG h) C W' l'.vs st S'→Q .next S'):
  wpAny (model h.prog h.w) C.A (exec (embS (C.em (theG h)) (.asgN 2 p1 (.ifx (.cmp (.calG 8 p2 [.loc 0 p3] p4) .Gt (.num 1 p5) p6) (.sub (.loc 0 p7) (.num 1 p8) p9) (.num 0 p10) p11) p12)) C.env) Q X S:=by
 walk_at "e h xs vs C W l st S X|H Y F R I h0|l'|hl'|p1 p2 p3 p4 p5 p6 p7 p8 p9 p10 p11 p12 Q|kk"
 have Wh:=whole H
 have hlen:=Y.len
 have hvl:=Y.vlen
 have sz:=Zv
 refine wpAny_Assign_Name (IfExp_ ?_) rfl
 refine (?_:wpAny _ _ (do testChain p6 (←eval (embE (C.em (theG h)) (.calG 8 p2 [.loc 0 p3] p4)) C.env) [.Gt] [eval (.Constant (.int (.ofNat 1)) 0 p5) C.env]) _ _ _)
 refine Qq (callG_blt Wh.names (level_ok H 3).toEOk (id:= "len") (f:=8) (Qx (i:=0) rfl) (by rfl) F.e R I (vs:=[.glo 2000]) (s':=st) ?_ fun W1 S1 us le1 I1 r1=> ?_)
 ·refine (?_:evs (fun e s=>(EV 3).ev e l s) [.loc 0 p3] st=_)
  exact gB (gA h0 rfl) rfl
 refine vsC r1 fun uu uu ra rb=> ?_
 refine vsN rb ?_
 have:=scr_val ra
 subst this
 refine Calls.call_len_list (Y.list I1) (by simp;lia) ?_
 refine test_last (Qn ?_)
 refine PyProof.Rows.gt_int (wpAny_truthy_bool ?_)
 have e:decide ((Int.ofNat 1:Int) < (vs.toArray.size:Int))=decide (1 < xs.length):=by
  have:(vs.toArray.size:Int)=(xs.length:Int):=by simp [hvl]
  rw [this]
  exact decide_eq_decide.mpr Int.ofNat_lt
 rw [e]
 by_cases hx:1 < xs.length
 ·rw [Wj hx]
  have e2:xs[1]? =some (secondOf xs):=by
   unfold secondOf
   rw [if_pos hx,Qu hx];rfl
  refine scr_item Y F (I1.toks (tk:=_)) h0 (i:=1) e2 fun t tk=> ?_
  exact Xx F I1.toks (by rfl) hl' (.int _ _) fun S' I'=>kk _ S' le1 I'
 ·rw [Wk hx]
  have e2:secondOf xs=0:=by unfold secondOf;rw [if_neg hx]
  rw [e2] at hl'
  refine Qn ?_
  exact Xx F (I1.toks (tk:=_)) (by rfl) hl' (.int _ _) fun S' I'=>kk _ S' le1 I'
theorem scr_rest (H:HOk h) (Y:Scr h xs vs) {g:Nat→Bool} (F:Env0 (theG h) C g) (I:Inv (theG h) C W l.vs st S) (h0:l.get 0=some (.glo 2000)) {p1 p2 p3 p4:Pos} {s':St} {v:AV} (hn:st.new (.list ((xs.drop 2).map AV.int))=some (v,s')) {Q:Value→Shared→Prop} (kk:Cont (theG h) C W l.vs s' v Q):
  wpAny (model h.prog h.w) C.A (eval (embE (C.em (theG h)) (.slc (.loc 0 p1) (some (.num 2 p2)) none p3 p4)) C.env) Q X S:=by
 have hlen:=Y.len
 have hvl:=Y.vlen
 have sz:=Zv
 refine Subscript_ (I.load F h0 fun sv rs=>wpAny_Slice ?_)
 have:=scr_val rs
 subst this
 refine (?_:wpAny _ _ (eval (.Constant (.int (.ofNat 2)) 0 p2) C.env) _ _ _)
 refine Qn ?_
 refine Qw (Qw ?_)
 have I':Inv (theG h) C W l.vs st { S with heap:=S.heap.push { cls:= .type "slice",data:= .fields #[.int (.ofNat 2) S.toks,.none,.none] },toks:=S.toks+1 }:=I.grow (Xk _ _)
 have L:=Y.list I'
 refine Vn (G:=theG h) (S:={ S with heap:=S.heap.push { cls:= .type "slice",data:= .fields #[.int (.ofNat 2) S.toks,.none,.none] },toks:=S.toks+1 }) L.typeIs slot_list_getitem.lookup (wpAny_getItem_list_slice L (Heap.IsSliceOf.new ..) (.int _ _) .none .none (by simp) ?_ (by simp;lia))
 rw [PySem.W.kms_pick_eq]
 have e2:PySem.W.kms_pick vs.toArray.toList (some (Int.ofNat 2)) none=vs.drop 2:=by
  unfold PySem.W.kms_pick
  rw [kms_lo_bound]
  have hb:bound (Int.ofNat 2) vs.toArray.toList.length=min 2 vs.length:=by
   unfold bound
   simp only [List.toList_toArray]
   by_cases q:2≤vs.length
   ·rw [Wb q,Nat.min_eq_left q]
   ·have:Nat.ble 2 vs.length=false:=by
     cases z:Nat.ble 2 vs.length with
     | false=>rfl
     | true=>exact absurd (Qh z) q
    rw [this,Nat.min_eq_right (by lia)]
  rw [hb]
  refine (?_:((vs.drop (min 2 vs.length)).take (vs.length - min 2 vs.length))=_)
  by_cases q:2≤vs.length
  ·rw [Nat.min_eq_left q,List.take_of_length_le (by simp)]
  ·rw [Nat.min_eq_right (by lia),List.drop_of_length_le (by lia),List.drop_of_length_le (by lia)];simp
 rw [e2]
 have hr2:VRels (theG h) W ((xs.drop 2).map AV.int) (vs.drop 2):=by rw [List.map_drop];exact (Y.iv W).drop 2
 refine oAA (I'.fresh' (co:={ cls:= .type "list",data:= .seq (vs.drop 2).toArray }) hn ⟨_,0,rfl,hr2⟩ rfl) fun le J Rr=> ?_
 exact kk _ _ _ le J Rr
end
end
section
open PySem (Pos CmpOp)
namespace Tr
variable {α:Type}
theorem gTr {β:Type} {o:Option (Tr α)} {A:Tr α→β} {B r:β} {t:Tr α} (h:o=some t) (k:A t=r):(match (generalizing:=false) o with | some t=>A t | none=>B)=r:=by cases h;exact k
theorem put_node_some {x:α} {f:Nat} (ih:∀ (t:Tr α) (i:Nat),i < f→∃ t',put x t i f=some t') (v:Option α) (l r:Tr α) {i:Nat} (h:i < f+1):∃ t',put x (.node v l r) i (f+1)=some t':=by
 cases q0:Nat.beq i 0 with
 | true=>exact ⟨_,gO q0 rfl⟩
 | false=>
  have h0:=Nat.ne_of_beq_eq_false q0
  cases q:Nat.beq (i % 2) 1 with
  | true=>exact (ih l (i / 2) (y5 h h0)).elim fun t' e=>⟨_,gP q0 (gO q (gTr e rfl))⟩
  | false=>exact (ih r (i / 2 - 1) (y4 h h0)).elim fun t' e=>⟨_,gP q0 (gP q (gTr e rfl))⟩
theorem put_some (x:α):∀ (f:Nat) (t:Tr α) (i:Nat),i < f→∃ t',put x t i f=some t'
 | 0,_,_,h=>absurd h (Nat.not_lt_zero _)
 | f+1,.nil,_,h=>put_node_some (put_some x f) none .nil .nil h
 | f+1,.node v l r,_,h=>put_node_some (put_some x f) v l r h
noncomputable def putT (t:Tr α) (i:Nat) (x:α):Tr α:=(t.set i x).getD .nil
theorem set_eq (t:Tr α) (i:Nat) (x:α):t.set i x=some (t.putT i x):=by
 refine oE (put_some x (i+1) t i (Wz i)) fun t' e=> ?_
 have:t.set i x=some t':=e
 unfold putT
 rw [this];rfl
theorem get_putT (t:Tr α) (i:Nat) (x:α) (j:Nat):(t.putT i x).get j=if j=i then some x else t.get j:=set_get (set_eq t i x) j
end Tr
theorem Lo.get_eq (l:Lo) (x:Nat):l.get x=l.vs.get x:=rfl
theorem Lo.set_eq (l:Lo) (x:Nat) (v:AV):l.set x v=some ⟨l.dep,l.vs.putT x v⟩:=by unfold Lo.set;rw [Tr.set_eq]
theorem St.upd_eq (s:St) (n:Nat) (o:AO):s.upd n o=some ⟨s.h.putT n o,s.nx⟩:=by unfold St.upd;rw [Tr.set_eq]
theorem St.new_eq (s:St) (o:AO):s.new o=some (.ref s.nx,⟨s.h.putT s.nx o,s.nx+1⟩):=by unfold St.new;rw [Tr.set_eq];dsimp only;rw [Zk]
theorem Yn (i:Nat) (t:Tr AV):bindP i [] t=some t:=rfl
theorem Xz (i:Nat) (v:AV) (r:List AV) (t:Tr AV):bindP i (v::r) t=bindP (i+1) r (t.putT i v):=by
 refine (?_:(match t.set i v with | some t=>bindP (i+1) r t | none=>none)=_);rw [Tr.set_eq]
theorem EV_ev (n:Nat) (e:CE) (l:Lo) (s:St):(EV (n+1)).ev e l s=evStep P1 theN (EV n) e l s:=rfl
structure Ext (s s':St):Prop where
 get:∀ i,i < s.nx→s'.h.get i=s.h.get i
 nx:s.nx≤s'.nx
theorem Ext.refl (s:St):Ext s s:=⟨fun uu uu=>rfl,Nat.le_refl _⟩
theorem Ext.trans {s s' s'':St} (h:Ext s s') (k:Ext s' s''):Ext s s'':=⟨fun i hi=>(k.get i (Wx hi h.nx)).trans (h.get i hi),Nat.le_trans h.nx k.nx⟩
theorem Ext.push (s:St) (o:AO):Ext s ⟨s.h.putT s.nx o,s.nx+1⟩:=⟨fun i hi=>by
 rw [Tr.get_putT,if_neg (by lia)],Nat.le_succ _⟩
end
section
open PySem (Pos CmpOp Operator)
theorem strs_2:P1.strq 2=[108,101,102,116]:=rfl
theorem strs_3:P1.strq 3=[114,105,103,104,116]:=rfl
theorem strs_9:P1.strq 9=[36,101,110,100]:=rfl
theorem strs_13:P1.strq 13=[97]:=rfl
theorem strs_14:P1.strq 14=[98]:=rfl
theorem strs_15:P1.strq 15=[109]:=rfl
theorem strs_16:P1.strq 16=[110]:=rfl
theorem strs_17:P1.strq 17=[40]:=rfl
theorem strs_18:P1.strq 18=[41]:=rfl
theorem strs_19:P1.strq 19=[85]:=rfl
theorem strs_21:P1.strq 21=[]:=rfl
theorem strs_22:P1.strq 22=[103,111,32,111,110]:=rfl
theorem strs_23:P1.strq 23=[103,111,32,98,97,99,107]:=rfl
theorem strs_24:P1.strq 24=[114,101,102,117,115,101,100]:=rfl
theorem beqS_eq' (x y:List Nat):beqS x y=decide (x=y):=Vb x y
section
variable {n:Nat} {l:Lo} {s s1 s2 s3:St} {p p1 p2 p3:Pos}
theorem Zy {d:Nat} {t:Tr AV} {x:Nat} {v:AV}:(Lo.mk d (t.putT x v)).get x=some v:=by rw [Lo.get_eq,Tr.get_putT,if_pos rfl]
theorem Yj {d:Nat} {t:Tr AV} {x y:Nat} {v:AV} {r:Option AV} (h:x≠y) (k:(Lo.mk d t).get x=r):(Lo.mk d (t.putT y v)).get x=r:=by rw [Lo.get_eq,Tr.get_putT,if_neg h];exact k
theorem gg {d:Nat} {t:Tr AV} {x y:Nat} {v:AV} {r:Option AV} (h:Nat.beq x y=false) (k:(Lo.mk d t).get x=r):(Lo.mk d (t.putT y v)).get x=r:=Yj (Nat.ne_of_beq_eq_false h) k
theorem x_loc {x:Nat} {v:AV} (h:l.get x=some v):(EV (n+1)).ev (.loc x p) l s=some (v,s):=by rw [EV_ev];delta evStep;dsimp only;rw [h]
theorem x_str {k:Nat} {t:List Nat} (h:P1.strq k=t):(EV (n+1)).ev (.str k p) l s=some (.str t,s):=congrArg (fun t=>some (AV.str t,s)) h
theorem x_num {k:Nat}:(EV (n+1)).ev (.num k p) l s=some (.int (.ofNat k),s):=rfl
theorem x_non:(EV (n+1)).ev (.non p) l s=some (.non,s):=rfl
theorem x_boo {b:Bool}:(EV (n+1)).ev (.boo b p) l s=some (.boo b,s):=rfl
theorem x_sub {e i:CE} {v k r:AV} (h1:(EV n).ev e l s=some (v,s1)) (h2:(EV n).ev i l s1=some (k,s2)) (h3:getI v k s2=some r):(EV (n+1)).ev (.sub e i p) l s=some (r,s2):=by
 walk_at "g h1 h2 h3"
theorem x_attr {e:CE} {a:Nat} {v r:AV} (h1:(EV n).ev e l s=some (v,s1)) (h3:getA P1 v a s1=some r):(EV (n+1)).ev (.attr e a p) l s=some (r,s1):=by
 walk_at "g h1 h3"
theorem x_cmp {a b:CE} {op:CmpOp} {x y:AV} {r:Bool} (h1:(EV n).ev a l s=some (x,s1)) (h2:(EV n).ev b l s1=some (y,s2)) (h3:cmpV op x y s2=some r):(EV (n+1)).ev (.cmp a op b p) l s=some (.boo r,s2):=by
 walk_at "g h1 h2 h3"
theorem x_bin {a b:CE} {op:Operator} {x y:AV} {r:AV × St} (h1:(EV n).ev a l s=some (x,s1)) (h2:(EV n).ev b l s1=some (y,s2)) (h3:preV op x y s2=none) (h4:binV op x y s2=some r):(EV (n+1)).ev (.bin a op b p) l s=some r:=by
 walk_at "g h1 h2 h3 h4"
theorem x_pre {a b:CE} {op:Operator} {x y:AV} {r:AV × St} (h1:(EV n).ev a l s=some (x,s1)) (h2:(EV n).ev b l s1=some (y,s2)) (h3:preV op x y s2=some r):(EV (n+1)).ev (.bin a op b p) l s=some r:=by
 walk_at "g h1 h2 h3"
theorem x_add {a b:CE} {i j:Int} (h1:(EV n).ev a l s=some (.int i,s1)) (h2:(EV n).ev b l s1=some (.int j,s2)):(EV (n+1)).ev (.bin a .Add b p) l s=some (.int (i+j),s2):=
 x_bin h1 h2 rfl (by refine (?_:plainI (i+j) (fun k=>some (AV.int k,s2))=_);exact Xb _ _)
theorem x_minus {a b:CE} {i j:Int} (h1:(EV n).ev a l s=some (.int i,s1)) (h2:(EV n).ev b l s1=some (.int j,s2)):(EV (n+1)).ev (.bin a .Sub b p) l s=some (.int (i - j),s2):=
 x_bin h1 h2 rfl (by refine (?_:plainI (i - j) (fun k=>some (AV.int k,s2))=_);exact Xb _ _)
theorem x_mod {a b:CE} {i:Int} {j:Nat} (h1:(EV n).ev a l s=some (.int i,s1)) (h2:(EV n).ev b l s1=some (.int (.ofNat (j+1)),s2)):(EV (n+1)).ev (.bin a .Mod b p) l s=some (.int (i % ((j+1:Nat):Int)),s2):=
 x_pre h1 h2 (by refine (?_:plainI (i % .ofNat (j+1)) (fun k=>some (AV.int k,s2))=_);exact Xb _ _)
theorem x_neg {a:CE} {i:Int} (h1:(EV n).ev a l s=some (.int i,s1)):(EV (n+1)).ev (.neg a p) l s=some (.int (-i),s1):=gNi h1 (Xb _ _)
theorem x_ifx {t a b:CE} {c:Bool} {r:Option (AV × St)} (h1:(EV n).tst t l s=some (c,s1)) (h2:(EV n).ev (if c then a else b) l s1=r):(EV (n+1)).ev (.ifx t a b p) l s=r:=by
 cases c with
 | true=>exact gX h1 h2
 | false=>exact gY h1 h2
theorem Yw {f:CE→St→Option (AV × St)}:evs f [] s=some ([],s):=rfl
theorem Xj {f:CE→St→Option (AV × St)} {e:CE} {r:List CE} {v:AV} {vs:List AV} (h1:f e s=some (v,s1)) (h2:evs f r s1=some (vs,s2)):evs f (e::r) s=some (v::vs,s2):=by
 exact gB h1 (gD h2 rfl)
theorem x_lst {es:List CE} {vs:List AV} (h0:small es=true) (h1:evs (fun e s=>(EV n).ev e l s) es s=some (vs,s1)):(EV (n+1)).ev (.lst es p) l s=some (.ref s1.nx,⟨s1.h.putT s1.nx (.list vs),s1.nx+1⟩):=by
 walk_at "g h0 h1";exact St.new_eq _ _
theorem x_tup {es:List CE} {vs:List AV} (h0:small es=true) (h1:evs (fun e s=>(EV n).ev e l s) es s=some (vs,s1)):(EV (n+1)).ev (.tup es p) l s=some (.tup vs,s1):=by
 walk_at "g h0 h1"
theorem x_slc {e:CE} {lo hi:Option CE} {v:AV} {a b:Option Int} {r:AV × St} (h1:(EV n).ev e l s=some (v,s1)) (h2:optE (fun e s=>(EV n).ev e l s) lo s1=some (a,s2)) (h3:optE (fun e s=>(EV n).ev e l s) hi s2=some (b,s3)) (h4:sliceV v a b s3=some r):
  (EV (n+1)).ev (.slc e lo hi p1 p) l s=some r:=by
 walk_at "g h1 h2 h3 h4"
theorem optE_none {f:CE→St→Option (AV × St)}:optE f none s=some (none,s):=rfl
theorem optE_some {f:CE→St→Option (AV × St)} {e:CE} {i:Int} (h:f e s=some (.int i,s1)):optE f (some e) s=some (some i,s1):=by delta optE;dsimp only;rw [h]
theorem calG_eq {f:Nat} {args:List CE} (h0:Nat.beq f theN.list=false):(EV (n+1)).ev (.calG f p1 args p) l s=match evs (fun e s=>(EV n).ev e l s) args s with | some (vs,s)=>callV P1 theN (EV n) f vs l s | none=>none:=gP h0 rfl
theorem x_call {f k:Nat} {args:List CE} {vs:List AV} {r:AV × St} (h0:Nat.beq f theN.list=false) (h1:evs (fun e s=>(EV n).ev e l s) args s=some (vs,s1)) (h2:P1.glob f=some (.glo k)) (h3:P1.cls k=none) (h4:callFn P1 (EV n) k vs l s1=some r):
  (EV (n+1)).ev (.calG f p1 args p) l s=some r:=gP h0 (gD h1 (gA h2 (gS h3 h4)))
theorem x_len {e:CE} {m:Nat} {xs:List AV} (h1':(EV (n+1)).ev e l s=some (.ref m,s1)) (h2:s1.h.get m=some (.list xs)) (h3:small xs=true):(EV (n+1+1)).ev (.calG 8 p1 [e] p) l s=some (.int (.ofNat xs.length),s1):=by
 have e:evs (fun e s=>(EV (n+1)).ev e l s) [e] s=some ([.ref m],s1):=Xj h1' Yw
 refine gD e ?_
 refine (?_:lenV P1 (EV (n+1)) (.ref m) l s1=_)
 unfold lenV
 dsimp only
 rw [h2];dsimp only;rw [h3];dsimp only;rw [Zk,Zd]
theorem t_cmp {a b:CE} {op:CmpOp} {x y:AV} {r:Bool} (h1:(EV n).ev a l s=some (x,s1)) (h2:(EV n).ev b l s1=some (y,s2)) (h3:cmpV op x y s2=some r):(EV (n+1)).tst (.cmp a op b p) l s=some (r,s2):=by
 walk_at "g h1 h2 h3"
theorem t_loc {x:Nat} {v:AV} {b:Bool} (h1:l.get x=some v) (h2:truth P1 v s=some b):(EV (n+2)).tst (.loc x p) l s=some (b,s):=by
 show (match (EV (n+1)).ev (.loc x p) l s with | some (v,s)=>(match truth P1 v s with | some b=>some (b,s) | none=>none) | none=>none)=_
 rw [x_loc h1];dsimp only;rw [h2]
theorem t_and2 {a b:CE} {x y:Bool} (h1:(EV n).tst a l s=some (x,s1)) (h2:x=true→(EV n).tst b l s1=some (y,s2)) (hx:x=false→y=false∧s2=s1):(EV (n+1)).tst (.and [a,b] p) l s=some (x && y,s2):=by
 cases x with
 | false=>(refine oA (hx rfl) fun q0z q1z=> ?_;subst q0z q1z);exact gC h1 rfl
 | true=>exact gC h1 (gC (h2 rfl) (by cases y <;> rfl))
theorem t_or_true {a:CE} {r:List CE} (h1:(EV n).tst a l s=some (true,s1)):(EV (n+1)).tst (.or (a::r) p) l s=some (true,s1):=gC h1 rfl
theorem Vj {a:CE} {r:List CE} {q:Bool × St} (h1:(EV n).tst a l s=some (false,s1)) (h2:allT (fun e s=>(EV n).tst e l s) false r s1=some q):(EV (n+1)).tst (.or (a::r) p) l s=some q:=gC h1 h2
theorem Uw {f:CE→St→Option (Bool × St)} {a:CE} {r:List CE} (h1:f a s=some (true,s1)):allT f false (a::r) s=some (true,s1):=gC h1 rfl
theorem Yf {f:CE→St→Option (Bool × St)} {a:CE} {r:List CE} {q:Bool × St} (h1:f a s=some (false,s1)) (h2:allT f false r s1=some q):allT f false (a::r) s=some q:=gC h1 h2
theorem allT_or_nil {f:CE→St→Option (Bool × St)}:allT f false [] s=some (false,s):=rfl
variable {r:Option (Fl × Lo × St)} {rest:List CS}
theorem e_nil:(EV (n+1)).exs [] l s=some (.next,l,s):=rfl
theorem e_cons {c:CS} {l1:Lo} (h1:exStep P1 theN (EV n) c l s=some (.next,l1,s1)) (h2:(EV (n+1)).exs rest l1 s1=r):(EV (n+1)).exs (c::rest) l s=r:=by
 exact gF h1 h2
theorem Xq {x d:Nat} {t:Tr AV} {e:CE} {v:AV} (h1:(EV n).ev e ⟨d,t⟩ s=some (v,s1)) (h2:(EV (n+1)).exs rest ⟨d,t.putT x v⟩ s1=r):(EV (n+1)).exs (.asgN x p1 e p::rest) ⟨d,t⟩ s=r:=by
 refine e_cons ?_ h2
 walk_at "g h1";exact gH (Lo.set_eq ..) rfl
theorem e_expr {e:CE} {v:AV} (h1:(EV n).ev e l s=some (v,s1)) (h2:(EV (n+1)).exs rest l s1=r):(EV (n+1)).exs (.expr e p::rest) l s=r:=by
 refine e_cons ?_ h2
 walk_at "g h1"
theorem e_augN {x d:Nat} {t:Tr AV} {e:CE} {op:Operator} {i j:Int} {q:AV} (h0:(Lo.mk d t).get x=some (.int i)) (h1:(EV n).ev e ⟨d,t⟩ s=some (.int j,s1)) (h3:binV op (.int i) (.int j) s1=some (q,s1)) (h2:(EV (n+1)).exs rest ⟨d,t.putT x q⟩ s1=r):(EV (n+1)).exs (.augN x p1 op e p::rest) ⟨d,t⟩ s=r:=by
 refine e_cons ?_ h2
 walk_at "g h0 h1 h3";exact gH (Lo.set_eq ..) rfl
theorem e_ret {e:CE} {v:AV} (h1:(EV n).ev e l s=some (v,s1)):(EV (n+1)).exs (.ret (some e) p::rest) l s=some (.ret v,l,s1):=by
 exact gF (gB h1 rfl) rfl
theorem e_brk:(EV (n+1)).exs (.brk p::rest) l s=some (.brk,l,s):=rfl
theorem e_ife {t:CE} {b c:List CS} {q:Bool} {l1:Lo} (h1:(EV n).tst t l s=some (q,s1)) (h2:(EV n).exs (if q then b else c) l s1=some (.next,l1,s2)) (h3:(EV (n+1)).exs rest l1 s2=r):(EV (n+1)).exs (.ife t b c p::rest) l s=r:=by
 refine e_cons ?_ h3
 cases q with
 | true=>exact gX h1 h2
 | false=>exact gY h1 h2
theorem Zj {t:CE} {b c:List CS} {q:Bool} {l1:Lo} {fl:Fl} (h1:(EV n).tst t l s=some (q,s1)) (h2:(EV n).exs (if q then b else c) l s1=some (fl,l1,s2)) (hf:fl≠ .next):(EV (n+1)).exs (.ife t b c p::rest) l s=some (fl,l1,s2):=by
 have h:exStep P1 theN (EV n) (.ife t b c p) l s=some (fl,l1,s2):=by
  cases q with
  | true=>exact gX h1 h2
  | false=>exact gY h1 h2
 exact gF h (by cases fl <;> first | exact absurd rfl hf | rfl)
theorem c_fn {f d:Nat} {F:Fun} {args:List AV} {t:Tr AV} {v:AV} (hf:P1.fn f=some F) (hd:F.dflt=[]) (hn:args.length=F.n) (hl:l.dep=d+1) (ht:bindP 0 args .nil=some t) (h:∃ l1,(EV n).exs F.body ⟨d,t⟩ s=some (.ret v,l1,s1)):
  callFn P1 (EV n) f args l s=some (v,s1):=by
 refine oE h fun l1 h=> ?_
 have e1:withDflt F.n F.dflt args=some args:=by
  unfold withDflt
  rw [hd]
  simp only [Zd,Vq,app_eq,hn,Nat.sub_self,List.length_nil]
  simp
 have e2:Nat.beq (lenN args) F.n=true:=by rw [Zd,hn,Tr.beq_eq];simp
 exact gV hf (gW hl (gI e1 (gO e2 (gU ht (gF h rfl)))))
theorem Xh {m:Nat} {xs:List AV} {i:Nat} {x:AV} (h:s.h.get m=some (.list xs)) (hs:xs.length≤4000) (hi:xs[i]? =some x):getI (.ref m) (.int (.ofNat i)) s=some x:=by
 unfold getI
 dsimp only
 rw [h]
 dsimp only
 unfold place
 rw [Zd,show Nat.ble xs.length 4000=true from Wb hs]
 dsimp only
 rw [Yb];exact hi
theorem getI_last {m:Nat} {xs:List AV} {x:AV} (h:s.h.get m=some (.list (xs++ [x]))) (hs:xs.length+1≤4000):getI (.ref m) (.int (-1)) s=some x:=by
 unfold getI
 dsimp only
 rw [h]
 dsimp only
 unfold place
 rw [Zd,List.length_append,show Nat.ble (xs.length+ [x].length) 4000=true from Wb hs]
 show (match (match Nat.blt 0 (xs.length+ [x].length) with | true=>some (xs.length+ [x].length - (0+1)) | false=>none) with | some p=>nth (xs++ [x]) p | none=>none)=some x
 rw [show Nat.blt 0 (xs.length+ [x].length)=true from Wb (by simp)]
 dsimp only
 rw [Yb]
 simp
theorem Zh {m ep:Nat} {es:List (AV × AV)} {k x:AV} (h:s.h.get m=some (.dict es ep)) (hf:find k es=some (some x)):getI (.ref m) k s=some x:=by
 unfold getI
 dsimp only
 rw [h]
 dsimp only
 rw [hf]
theorem Yz {xs:List AV} {i:Nat} {x:AV} (hs:xs.length≤4000) (hi:xs[i]? =some x):getI (.tup xs) (.int (.ofNat i)) s=some x:=by
 unfold getI
 dsimp only
 unfold place
 rw [Zd,show Nat.ble xs.length 4000=true from Wb hs]
 dsimp only
 rw [Yb];exact hi
theorem in_list {m:Nat} {xs:List AV} {t:List Nat} {b:Bool} (h:s.h.get m=some (.list xs)) (hm:memK (.str t) xs=some b):cmpV .In (.str t) (.ref m) s=some b:=by
 show within (.str t) (.ref m) s=some b
 unfold within
 dsimp only
 rw [h]
 exact hm
theorem Yx {α:Type} {xs:List α} (h:xs.length≤4000):small xs=true:=by unfold small;rw [Zd];exact Wb h
end
theorem fn_settled:P1.fn 97=some f_ls:=rfl
noncomputable def sGo:List Nat:=[103,111,32,111,110]
noncomputable def sBack:List Nat:=[103,111,32,98,97,99,107]
noncomputable def sRef:List Nat:=[114,101,102,117,115,101,100]
noncomputable def settle (wh:List Nat) (lh lt:Int):List Nat:=if lh < lt then sGo else if lt < lh∨wh=[108,101,102,116] then sBack else if wh=[114,105,103,104,116] then sGo else sRef
theorem gt_int {s:St} {i j:Int}:cmpV .Gt (.int i) (.int j) s=some (decide (j < i)):=by refine (?_:some (ltI j i)=_);rw [ltI_eq]
theorem lt_int {s:St} {i j:Int}:cmpV .Lt (.int i) (.int j) s=some (decide (i < j)):=by refine (?_:some (ltI i j)=_);rw [ltI_eq]
theorem eq_str {s:St} {i j:List Nat}:cmpV .Eq (.str i) (.str j) s=some (decide (i=j)):=by refine (?_:some (beqS i j)=_);rw [beqS_eq']
theorem settled_nil {n d:Nat} {l:Lo} {s:St} {wv cv:AV} (hd:l.dep=d+1):callFn P1 (EV (n+8)) 97 [wv,.str [],cv] l s=some (.str sGo,s):=by
 refine c_fn fn_settled rfl rfl hd (by rw [Xz,Xz,Xz,Yn]) ?_
 apply Exists.intro
 refine (?_:(EV (n+8)).exs b_ls _ _=_)
 apply Zj (q:=true)
 ·apply t_cmp
  ·walk_at "am_ev"
  ·walk_at "am_ev"
  ·rw [eq_str];rfl
 ·apply e_ret;walk_at "am_ev"
 ·walk_at "am_leave"
theorem settled_ok {n d:Nat} {l:Lo} {s:St} {wr ep:Nat} {es:List (AV × AV)} {pk c wh wt:List Nat} {lh lt:Int} (hs:s.h.get wr=some (.dict es ep)) (hd:l.dep=d+1) (hp0:pk≠[]) (hp:find (.str pk) es=some (some (.tup [.str wh,.int lh]))) (hc:find (.str c) es=some (some (.tup [.str wt,.int lt]))):
  callFn P1 (EV (n+8)) 97 [.ref wr,.str pk,.str c] l s=some (.str (settle wh lh lt),s):=by
 walk_at "e n d l s wr ep es pk c wh wt lh lt|hs hd hp0 hp hc"
 have g1:=Zh hs hp
 have g2:=Zh hs hc
 have g3:getI (.tup [.str wh,.int lh]) (.int (.ofNat 1)) s=some (.int lh):=Yz (by simp) rfl
 have g4:getI (.tup [.str wh,.int lh]) (.int (.ofNat 0)) s=some (.str wh):=Yz (by simp) rfl
 have g5:getI (.tup [.str wt,.int lt]) (.int (.ofNat 1)) s=some (.int lt):=Yz (by simp) rfl
 refine c_fn fn_settled rfl rfl hd (by rw [Xz,Xz,Xz,Yn]) ?_
 apply Exists.intro
 refine (?_:(EV (n+8)).exs b_ls _ _=_)
 apply e_ife (q:=false)
 ·apply t_cmp
  ·walk_at "am_ev"
  ·walk_at "am_ev"
  ·rw [eq_str,Wk hp0]
 ·exact e_nil
 apply Xq
 ·walk_at "am_ev"
 apply Xq
 ·walk_at "am_ev"
 unfold settle
 by_cases h1:lh < lt
 ·rw [if_pos h1]
  apply Zj (q:=true)
  ·apply t_cmp
   ·walk_at "am_ev"
   ·walk_at "am_ev"
   ·rw [gt_int,Wj h1]
  ·apply e_ret;walk_at "am_ev"
  ·walk_at "am_leave"
 rw [if_neg h1]
 apply e_ife (q:=false)
 ·apply t_cmp
  ·walk_at "am_ev"
  ·walk_at "am_ev"
  ·rw [gt_int,Wk h1]
 ·exact e_nil
 by_cases h2:lt < lh
 ·rw [if_pos (.inl h2)]
  apply Zj (q:=true)
  ·apply t_or_true
   apply t_cmp
   ·walk_at "am_ev"
   ·walk_at "am_ev"
   ·rw [lt_int,Wj h2]
  ·apply e_ret;walk_at "am_ev"
  ·walk_at "am_leave"
 by_cases h3:wh=[108,101,102,116]
 ·rw [if_pos (.inr h3)]
  apply Zj (q:=true)
  ·apply Vj
   ·apply t_cmp
    ·walk_at "am_ev"
    ·walk_at "am_ev"
    ·rw [lt_int,Wk h2]
   ·apply Uw
    apply t_cmp
    ·walk_at "am_ev"
    ·walk_at "am_ev"
    ·rw [eq_str,Wj h3]
  ·apply e_ret;walk_at "am_ev"
  ·walk_at "am_leave"
 rw [if_neg (by rintro (q | q);exact h2 q;exact h3 q)]
 apply e_ife (q:=false)
 ·apply Vj
  ·apply t_cmp
   ·walk_at "am_ev"
   ·walk_at "am_ev"
   ·rw [lt_int,Wk h2]
  ·apply Yf
   ·apply t_cmp
    ·walk_at "am_ev"
    ·walk_at "am_ev"
    ·rw [eq_str,Wk h3]
   ·exact allT_or_nil
 ·exact e_nil
 apply e_ret
 by_cases h4:wh=[114,105,103,104,116]
 ·rw [if_pos h4]
  apply x_ifx (c:=true)
  ·apply t_cmp
   ·walk_at "am_ev"
   ·walk_at "am_ev"
   ·rw [eq_str,Wj h4]
  ·exact x_str strs_22
 ·rw [if_neg h4]
  apply x_ifx (c:=false)
  ·apply t_cmp
   ·walk_at "am_ev"
   ·walk_at "am_ev"
   ·rw [eq_str,Wk h4]
  ·exact x_str strs_24
section
variable {n:Nat} {l:Lo} {s s1 s2 s3:St} {p p1 p2 p3:Pos}
theorem x_meth {o:CE} {m:Nat} {args:List CE} {ov:AV} {mk:MK} {vs:List AV} {r:AV × St} (ho:∀ x q,o≠ .gl x q) (h1:(EV n).ev o l s=some (ov,s1)) (h2:peek ov s1=some mk) (h3:evs (fun e s=>(EV n).ev e l s) args s1=some (vs,s2)) (h4:methV P1 theN (EV n) mk ov m vs l s2=some r):
  (EV (n+1)).ev (.meth o m args p1 p) l s=some r:=by
 have e:evStep P1 theN (EV n) (.meth o m args p1 p) l s=(match (EV n).ev o l s with
   | some (v,s)=>(match peek v s with
    | some mk=>(match evs (fun e s=>(EV n).ev e l s) args s with
     | some (vs,s)=>methV P1 theN (EV n) mk v m vs l s
     | none=>none)
    | none=>none)
   | none=>none):=by
  cases o <;> first | rfl | exact absurd rfl (ho _ _)
 exact e.trans (gB h1 (gJ h2 (gD h3 h4)))
theorem x_append {o a:CE} {r:Nat} {xs:List AV} {v:AV} (ho:∀ x q,o≠ .gl x q) (h1:(EV n).ev o l s=some (.ref r,s1)) (h2:s1.h.get r=some (.list xs)) (h3:(EV n).ev a l s1=some (v,s2)) (h4:s2.h.get r=some (.list xs)) (h5:xs.length≤4000):
  (EV (n+1)).ev (.meth o 11 [a] p1 p) l s=some (.non,⟨s2.h.putT r (.list (xs++ [v])),s2.nx⟩):=by
 refine x_meth ho h1 (mk:= .lst) (by delta peek;dsimp only;rw [h2]) (Xj h3 Yw) ?_
 exact gK h4 (gO (Yx h5) (gI (snoc_eq _ _) (gZ (St.upd_eq ..) rfl)))
theorem x_get {o a:CE} {r ep:Nat} {es:List (AV × AV)} {k v:AV} (ho:∀ x q,o≠ .gl x q) (h1:(EV n).ev o l s=some (.ref r,s1)) (h2:s1.h.get r=some (.dict es ep)) (h3:(EV n).ev a l s1=some (k,s2)) (h4:s2.h.get r=some (.dict es ep)) (h5:find k es=some (some v)∨(find k es=some none∧v= .non)):
  (EV (n+1)).ev (.meth o 35 [a] p1 p) l s=some (v,s2):=by
 refine x_meth ho h1 (mk:= .dct) (by delta peek;dsimp only;rw [h2]) (Xj h3 Yw) ?_
 refine gL h4 ?_
 unfold dctM
 rw [show Nat.beq 35 theN.get=true from rfl]
 dsimp only
 rcases h5 with h5 | ⟨h5,rfl⟩ <;> rw [h5]
theorem pre_add {m k:Nat} {xs ys:List AV} (h1:s.h.get m=some (.list xs)) (h2:s.h.get k=some (.list ys)) (h3:xs.length≤4000) (h4:ys.length≤4000):preV .Add (.ref m) (.ref k) s=some (.ref s.nx,⟨s.h.putT s.nx (.list (xs++ys)),s.nx+1⟩):=by
 exact gK h1 (gK h2 (gO (Yx h3) (gO (Yx h4) (gI (app_eq _ _) (St.new_eq _ _)))))
theorem repN_eq (x:AV):∀ k,repN x k=List.replicate k x
 | 0=>rfl
 | k+1=>congrArg (x:: ·) (repN_eq x k)
theorem pre_mul {m k:Nat} {x:AV} (h1:s.h.get m=some (.list [x])) (h3:k≤4000):preV .Mult (.ref m) (.int (.ofNat k)) s=some (.ref s.nx,⟨s.h.putT s.nx (.list (List.replicate k x)),s.nx+1⟩):=by
 exact gSi h1 (gO (Wb h3) (by rw [St.new_eq,repN_eq]))
theorem Zb {t:Tr AO} {i j:Nat} {o:AO} {r:Option AO} (h:t.get i=r) (hne:i≠j):(t.putT j o).get i=r:=by rw [Tr.get_putT,if_neg hne];exact h
theorem Zg {t:Tr AO} {i:Nat} {o:AO}:(t.putT i o).get i=some o:=by rw [Tr.get_putT,if_pos rfl]
theorem for_turn {E:Ev} {t:Tgt} {b c:List CS} {f m i:Nat} {xs:List AV} {x:AV} {l1 l2:Lo} (h1:s.h.get m=some (.list xs)) (h2:xs[i]? =some x) (h3:bindT t x l=some l1) (h4:E.exs b l1 s=some (.next,l2,s1)) {r:Option (Fl × Lo × St)} (h5:forLoop E t b c f (.list m (i+1)) l2 s1=r):
  forLoop E t b c (f+1) (.list m i) l s=r:=by
 exact gIt (gK h1 (gA ((Yb _ _).trans h2) (Zk _ _))) (gH h3 (gF h4 h5))
theorem for_end {E:Ev} {t:Tgt} {b:List CS} {f m i:Nat} {xs:List AV} (h1:s.h.get m=some (.list xs)) (h2:xs[i]? =none):forLoop E t b [] (f+1) (.list m i) l s=E.exs [] l s:=by
 exact gIn (gK h1 (gAn ((Yb _ _).trans h2) rfl)) rfl
end
noncomputable def isSign (c:Nat):Prop:=c=97∨c=98∨c=109∨c=110∨c=40∨c=41
noncomputable def strs1 (cs:List Nat):List AV:=cs.map fun c=>AV.str [c]
theorem fn_signs:P1.fn 96=some f_lsx:=rfl
theorem fn_row:P1.fn 86=some f_lrx:=rfl
noncomputable def rowBody:List CS:=match b_lrx with
 | [_,_,_,.forr _ _ b _ _,_,_]=>b
 | _=>[]
theorem mod_idx (x:Int) (j:Nat):∃ k,k < j+1∧x % ((j+1:Nat):Int)=Int.ofNat k:=by
 have h0:=Int.emod_nonneg x (b:=((j+1:Nat):Int)) (by lia)
 have h1:=Int.emod_lt_of_pos x (b:=((j+1:Nat):Int)) (by lia)
 refine oE (Int.eq_ofNat_of_zero_le h0) fun k hk=> ?_
 exact ⟨k,by lia,hk⟩
theorem signs_ok {n d:Nat} {l:Lo} {s:St} (hd:l.dep=d+1):callFn P1 (EV (n+4)) 96 [] l s=some (.ref s.nx,⟨s.h.putT s.nx (.list (strs1 [110,97,98,109,40,41])),s.nx+1⟩):=by
 refine c_fn fn_signs rfl rfl hd (by rw [Yn]) ?_
 apply Exists.intro
 refine (?_:(EV (n+4)).exs b_lsx _ _=_)
 apply e_ret
 apply x_lst
 ·rfl
 ·walk_at "am_evs"
theorem pick {s:St} {m:Nat} {cs:List Nat} {x:Int} {j:Nat} (h:s.h.get m=some (.list (strs1 cs))) (hj:cs.length=j+1) (hl:cs.length≤4000) (hc:∀ c∈cs,isSign c):∃ c,isSign c∧getI (.ref m) (.int (x % ((j+1:Nat):Int))) s=some (.str [c]):=by
 refine oEA (mod_idx x j) fun k h1 h2=> ?_
 have hk:k < cs.length:=by lia
 refine ⟨cs[k],hc _ (List.getElem_mem hk),?_⟩
 rw [h2]
 refine Xh h (by simpa [strs1] using hl) ?_
 unfold strs1
 rw [List.getElem?_map,Qu hk];rfl
theorem sg:∀ c∈[110,97,98,109,40,41],isSign c:=by
 intro c hc
 simp only [List.mem_cons,List.not_mem_nil,or_false] at hc
 unfold isSign;lia
theorem sg2:∀ c∈[110,110,109,40],isSign c:=by
 intro c hc
 simp only [List.mem_cons,List.not_mem_nil,or_false] at hc
 unfold isSign;lia
theorem sg3:∀ c∈[97,98,98,41],isSign c:=by
 intro c hc
 simp only [List.mem_cons,List.not_mem_nil,or_false] at hc
 unfold isSign;lia
structure RowInv (s0:St) (ns:List Int) (q r d i:Nat) (t:Tr AV) (s:St):Prop where
 g1:(Lo.mk d t).get 1=some (.ref r)
 g2:∃ b,(Lo.mk d t).get 2=some (.boo b)
 g3:∃ k,k≤i∧(Lo.mk d t).get 3=some (.int (.ofNat k))
 hr:∃ cs,s.h.get r=some (.list (strs1 cs))∧cs.length=i∧∀ c∈cs,isSign c
 hq:s.h.get q=some (.list (ns.map .int))
 q0:s0.nx≤q
 r0:s0.nx≤r
 q1:q < s.nx
 r1:r < s.nx
 qr:q≠r
 ext:Ext s0 s
theorem RowInv.grow {s0 s s':St} {ns:List Int} {q r d i:Nat} {t t':Tr AV} (I:RowInv s0 ns q r d i t s) (e:Ext s s') (h1:(Lo.mk d t').get 1=(Lo.mk d t).get 1) (h2:∃ b,(Lo.mk d t').get 2=some (.boo b)) (h3:(Lo.mk d t').get 3=(Lo.mk d t).get 3):RowInv s0 ns q r d i t' s':=by
 refine oEA (I.hr) fun cs c1 c2=> ?_
 exact ⟨h1.trans I.g1,h2,by rw [h3];exact I.g3,⟨cs,(e.get _ I.r1).trans c1,c2⟩,(e.get _ I.q1).trans I.hq,I.q0,I.r0,Wx I.q1 e.nx,Wx I.r1 e.nx,I.qr,I.ext.trans e⟩
theorem memK_strs (c:Nat) (cs:List Nat):memK (.str [c]) (strs1 cs)=some (decide (c∈cs)):=by
 have key:∀ cs:List Nat,memGo (.str [c]) (strs1 cs)=some (decide (c∈cs)):=by
  intro cs
  induction cs with
  | nil=>rfl
  | cons a cs ih=>
   refine (?_:(match isKey (.str [a]) with | true=>(match memGo (.str [c]) (strs1 cs) with | some b=>(match eqK (.str [a]) (.str [c]) with | some true=>some true | some false=>some b | none=>none) | none=>none) | false=>none)=_)
   rw [show isKey (.str [a])=true from rfl]
   rw [ih]
   rw [show eqK (.str [a]) (.str [c])=some (beqS [a] [c]) from rfl,beqS_eq']
   by_cases h:a=c
   ·subst h;simp
   ·have h':¬c=a:=fun e=>h e.symm
    simp [h,h']
 refine (?_:(match isKey (.str [c]) with | true=>memGo (.str [c]) (strs1 cs) | false=>none)=_)
 rw [show isKey (.str [c])=true from rfl]
 exact key cs
noncomputable def rowRest:List CS:=match rowBody with
 | _::r=>r
 | _=>[]
theorem row_rest {n d i q r c:Nat} {s0 s:St} {ns:List Int} {t:Tr AV} (I:RowInv s0 ns q r (d+1) i t s) (hi:i < 4000) (h5:(Lo.mk (d+1) t).get 5=some (.str [c])) (hc:isSign c):∃ t' s',(EV (n+9)).exs rowRest ⟨d+1,t⟩ s=some (.next,⟨d+1,t'⟩,s')∧RowInv s0 ns q r (d+1) (i+1) t' s':=by
 walk_at "e n d i q r c s0 s ns t|I hi h5 hc"
 refine oE (I.g2) fun b hb=> ?_
 refine oEA (I.g3) fun k hk h3=> ?_
 refine oEAA (I.hr) fun cs c1 c2 c3=> ?_
 have h1:=I.g1
 let s1:St:=⟨s.h.putT r (.list (strs1 cs++ [.str [c]])),s.nx⟩
 let s2:St:=⟨s1.h.putT s1.nx (.list (strs1 [97,98,109,40])),s1.nx+1⟩
 have nq:q≠s.nx:=Nat.ne_of_lt I.q1
 have nr:r≠s.nx:=Nat.ne_of_lt I.r1
 have e2:s2.h.get r=some (.list (strs1 (cs++ [c]))):=by
  refine Zb ?_ nr
  rw [Zg];simp [strs1]
 have e3:s2.h.get q=some (.list (ns.map .int)):=Zb (Zb I.hq I.qr) nq
 have ext2:Ext s0 s2:=⟨fun j hj=>by
  have:=I.ext.nx
  have r0:=I.r0
  refine (Zb (Zb (I.ext.get j hj) ?_) ?_)
  ·lia
  ·refine (?_:j≠s.nx);lia,Nat.le_trans I.ext.nx (Nat.le_succ _)⟩
 have fin:∀ t',(Lo.mk (d+1) t').get 1=some (.ref r)→(∃ b,(Lo.mk (d+1) t').get 2=some (.boo b))→(∃ k,k≤i+1∧(Lo.mk (d+1) t').get 3=some (.int (.ofNat k)))→RowInv s0 ns q r (d+1) (i+1) t' s2:=fun t' q1 q2 q3=>
  ⟨q1,q2,q3,⟨cs++ [c],e2,by simp [c2],fun y hy=>by
   rcases Zx hy with hy | hy
   ·exact c3 y hy
   ·rw [List.mem_singleton] at hy;subst hy;exact hc⟩,e3,I.q0,I.r0,Nat.lt_succ_of_lt I.q1,Nat.lt_succ_of_lt I.r1,I.qr,ext2⟩
 have hl:(strs1 cs).length≤4000:=by simp [strs1,c2];lia
 have gb:(Lo.mk (d+1) (t.putT 2 (.boo (decide (c∈[97,98,109,40]))))).get 5=some (.str [c]):=gg rfl h5
 have gk:(Lo.mk (d+1) (t.putT 2 (.boo (decide (c∈[97,98,109,40]))))).get 3=some (.int (.ofNat k)):=gg rfl h3
 have g1:(Lo.mk (d+1) (t.putT 2 (.boo (decide (c∈[97,98,109,40]))))).get 1=some (.ref r):=gg rfl h1
 have start:∀ R,(∀ l',l'=Lo.mk (d+1) (t.putT 2 (.boo (decide (c∈[97,98,109,40]))))→(EV (n+9)).exs (rowRest.drop 2) l' s2=R)→(EV (n+9)).exs rowRest ⟨d+1,t⟩ s=R:=by
  intro R hR
  have hR:=hR _ rfl
  apply e_expr
  ·apply x_append
   ·intro _ _ h;cases h
   ·walk_at "am_ev"
   ·exact c1
   ·walk_at "am_ev"
   ·exact c1
   ·exact hl
  apply Xq
  ·apply x_cmp
   ·walk_at "am_ev"
   ·apply x_lst
    ·rfl
    ·walk_at "am_evs"
   ·exact in_list (Zg (t:=s1.h) (i:=s1.nx)) (memK_strs c [97,98,109,40])
  exact hR
 by_cases c40:c=40
 ·refine ⟨(t.putT 2 (.boo (decide (c∈[97,98,109,40])))).putT 3 (.int (.ofNat (k+1))),s2,start _ fun l' hl'=> ?_,fin _ (gg rfl g1) ⟨_,gg rfl Zy⟩ ⟨k+1,by lia,Zy⟩⟩
  subst hl'
  apply e_ife (q:=true)
  ·apply t_cmp
   ·walk_at "am_ev"
   ·walk_at "am_ev"
   ·rw [eq_str];simp [c40]
  ·apply e_augN
   ·exact gk
   ·walk_at "am_ev"
   ·rfl
   ·exact e_nil
  ·exact e_nil
 ·by_cases c41:c=41∧0 < k
  ·refine ⟨(t.putT 2 (.boo (decide (c∈[97,98,109,40])))).putT 3 (.int (.ofNat (k - 1))),s2,start _ fun l' hl'=> ?_,fin _ (gg rfl g1) ⟨_,gg rfl Zy⟩ ⟨k - 1,by lia,Zy⟩⟩
   subst hl'
   unfold rowRest rowBody b_lrx
   apply e_ife (q:=false)
   ·apply t_cmp
    ·walk_at "am_ev"
    ·walk_at "am_ev"
    ·rw [eq_str];simp [c40]
   ·apply e_ife (q:=true)
    ·apply t_and2 (x:=true) (y:=true)
     ·apply t_cmp
      ·walk_at "am_ev"
      ·walk_at "am_ev"
      ·rw [eq_str];simp [c41.1]
     ·intro _
      apply t_cmp
      ·walk_at "am_ev"
      ·walk_at "am_ev"
      ·rw [gt_int];simp [c41.2]
     ·intro h;exact taf h
    ·apply e_augN
     ·exact gk
     ·walk_at "am_ev"
     ·simp only [binV,Xb];rw [show (Int.ofNat k - Int.ofNat 1:Int)=Int.ofNat (k - 1) from by have:=c41.2;refine (?_:((k:Nat):Int) - 1=((k - 1:Nat):Int));lia]
     ·exact e_nil
    ·exact e_nil
   ·exact e_nil
  ·refine ⟨t.putT 2 (.boo (decide (c∈[97,98,109,40]))),s2,start _ fun l' hl'=> ?_,fin _ g1 ⟨_,Zy⟩ ⟨k,by lia,gk⟩⟩
   subst hl'
   apply e_ife (q:=false)
   ·apply t_cmp
    ·walk_at "am_ev"
    ·walk_at "am_ev"
    ·rw [eq_str];simp [c40]
   ·apply e_ife (q:=false)
    ·by_cases q41:c=41
     ·apply t_and2 (x:=true) (y:=false)
      ·apply t_cmp
       ·walk_at "am_ev"
       ·walk_at "am_ev"
       ·rw [eq_str];simp [q41]
      ·intro _
       apply t_cmp
       ·walk_at "am_ev"
       ·walk_at "am_ev"
       ·rw [gt_int]
        have:¬0 < k:=fun q=>c41 ⟨q41,q⟩
        simp;lia
      ·intro h;exact taf h
     ·apply t_and2 (x:=false) (y:=false)
      ·apply t_cmp
       ·walk_at "am_ev"
       ·walk_at "am_ev"
       ·rw [eq_str];simp [q41]
      ·intro h;exact fat h
      ·intro _;exact ⟨rfl,rfl⟩
    ·exact e_nil
    ·exact e_nil
   ·exact e_nil
theorem row_turn {n d i q r:Nat} {s0 s:St} {ns:List Int} {t:Tr AV} {x:Int} (I:RowInv s0 ns q r (d+1) i t s) (hi:i < 4000):∃ t' s',(EV (n+9)).exs rowBody ⟨d+1,t.putT 4 (.int x)⟩ s=some (.next,⟨d+1,t'⟩,s')∧RowInv s0 ns q r (d+1) (i+1) t' s':=by
 walk_at "e n d i q r s0 s ns t x|I hi"
 refine oE (I.g2) fun b hb=> ?_
 by_cases hx:x < 0
 ·let s1:St:=⟨s.h.putT s.nx (.list (strs1 [110,97,98,109,40,41])),s.nx+1⟩
  refine oEA (pick (s:=s1) (m:=s.nx) (x:=x) (j:=5) (cs:=[110,97,98,109,40,41]) Zg rfl (by decide) sg) fun c hc hp=> ?_
  obtain ⟨t',s',h,I'⟩:=row_rest (n:=n) (t:=(t.putT 4 (.int x)).putT 5 (.str [c])) (I.grow (Ext.push s _) (by rw [gg rfl (gg rfl rfl)]) ⟨b,gg rfl (gg rfl hb)⟩ (by rw [gg rfl (gg rfl rfl)])) hi Zy hc
  refine ⟨t',s',?_,I'⟩
  apply e_ife (q:=true)
  ·apply t_cmp
   ·walk_at "am_ev"
   ·walk_at "am_ev"
   ·rw [lt_int,Wj (show x < Int.ofNat 0 from hx)]
  ·apply Xq
   ·apply x_sub
    ·apply x_call
     ·rfl
     ·exact Yw
     ·rfl
     ·rfl
     ·exact signs_ok rfl
    ·apply x_mod
     ·walk_at "am_ev"
     ·walk_at "am_ev"
    ·exact hp
   ·exact e_nil
  ·exact h
 ·cases b with
  | true=>
   let s1:St:=⟨s.h.putT s.nx (.list (strs1 [110,110,109,40])),s.nx+1⟩
   refine oEA (pick (s:=s1) (m:=s.nx) (x:=x) (j:=3) (cs:=[110,110,109,40]) Zg rfl (by decide) sg2) fun c hc hp=> ?_
   obtain ⟨t',s',h,I'⟩:=row_rest (n:=n) (t:=(t.putT 4 (.int x)).putT 5 (.str [c])) (I.grow (Ext.push s _) (by rw [gg rfl (gg rfl rfl)]) ⟨true,gg rfl (gg rfl hb)⟩ (by rw [gg rfl (gg rfl rfl)])) hi Zy hc
   refine ⟨t',s',?_,I'⟩
   apply e_ife (q:=false)
   ·apply t_cmp
    ·walk_at "am_ev"
    ·walk_at "am_ev"
    ·rw [lt_int,Wk (show ¬x < Int.ofNat 0 from hx)]
   ·apply e_ife (q:=true)
    ·apply t_loc
     ·exact gg rfl hb
     ·rfl
    ·apply Xq
     ·apply x_sub
      ·apply x_lst
       ·rfl
       ·walk_at "am_evs"
      ·apply x_mod
       ·walk_at "am_ev"
       ·walk_at "am_ev"
      ·exact hp
     ·exact e_nil
    ·exact e_nil
   ·exact h
  | false=>
   let s1:St:=⟨s.h.putT s.nx (.list (strs1 [97,98,98,41])),s.nx+1⟩
   refine oEA (pick (s:=s1) (m:=s.nx) (x:=x) (j:=3) (cs:=[97,98,98,41]) Zg rfl (by decide) sg3) fun c hc hp=> ?_
   obtain ⟨t',s',h,I'⟩:=row_rest (n:=n) (t:=(t.putT 4 (.int x)).putT 5 (.str [c])) (I.grow (Ext.push s _) (by rw [gg rfl (gg rfl rfl)]) ⟨false,gg rfl (gg rfl hb)⟩ (by rw [gg rfl (gg rfl rfl)])) hi Zy hc
   refine ⟨t',s',?_,I'⟩
   apply e_ife (q:=false)
   ·apply t_cmp
    ·walk_at "am_ev"
    ·walk_at "am_ev"
    ·rw [lt_int,Wk (show ¬x < Int.ofNat 0 from hx)]
   ·apply e_ife (q:=false)
    ·apply t_loc
     ·exact gg rfl hb
     ·rfl
    ·apply Xq
     ·apply x_sub
      ·apply x_lst
       ·rfl
       ·walk_at "am_evs"
      ·apply x_mod
       ·walk_at "am_ev"
       ·walk_at "am_ev"
      ·exact hp
     ·exact e_nil
    ·exact e_nil
   ·exact h
section
variable {n:Nat} {l:Lo} {s s1 s2 s3:St} {p p1 p2 p3:Pos}
theorem e_for {t:Tgt} {e:CE} {b c rest:List CS} {it:It} {l1:Lo} {r:Option (Fl × Lo × St)} (h1:startIt theN (EV n) e l s=some (it,s1)) (h2:forLoop (EV n) t b c 200 it l s1=some (.next,l1,s2)) (h3:(EV (n+1)).exs rest l1 s2=r):(EV (n+1)).exs (.forr t e b c p::rest) l s=r:=by
 refine e_cons ?_ h3
 exact gIs h1 h2
theorem e_for_out {t:Tgt} {e:CE} {b c rest:List CS} {it:It} {l1:Lo} {v:AV} (h1:startIt theN (EV n) e l s=some (it,s1)) (h2:forLoop (EV n) t b c 200 it l s1=some (.ret v,l1,s2)):(EV (n+1)).exs (.forr t e b c p::rest) l s=some (.ret v,l1,s2):=by
 exact gF (gIs h1 h2) rfl
theorem start_slc {e:CE} {lo hi:Option CE} {m:Nat} {xs:List AV} (h1:(EV n).ev (.slc e lo hi p1 p) l s=some (.ref m,s1)) (h2:s1.h.get m=some (.list xs)):startIt theN (EV n) (.slc e lo hi p1 p) l s=some (.list m 0,s1):=by
 refine gB h1 ?_
 unfold iterOf
 dsimp only
 rw [h2]
theorem slice_list {m:Nat} {xs ys:List AV} {lo hi:Option Int} (h:s.h.get m=some (.list xs)) (hl:xs.length≤4000) (hy:cut xs lo hi=some ys):sliceV (.ref m) lo hi s=some (.ref s.nx,⟨s.h.putT s.nx (.list ys),s.nx+1⟩):=by
 exact gK h (gO (Yx hl) (gI hy (St.new_eq _ _)))
theorem bound_nat (k n:Nat):bound (.ofNat k) n=min k n:=by
 unfold bound
 dsimp only
 by_cases h:k≤n
 ·rw [Wb h,Nat.min_eq_left h]
 ·have:Nat.ble k n=false:=by
   cases q:Nat.ble k n with
   | false=>rfl
   | true=>exact absurd (Qh q) h
  rw [this,Nat.min_eq_right (by lia)]
theorem cut_take (xs:List AV) (k:Nat):cut xs none (some (.ofNat k))=some (xs.take k):=by
 unfold cut
 simp only [Zd,takeN_eq,Vq,bound_nat,List.drop_zero,Nat.sub_zero]
 by_cases h:k≤xs.length
 ·rw [Nat.min_eq_left h]
 ·rw [Nat.min_eq_right (by lia),List.take_of_length_le (by lia),List.take_of_length_le (by lia)]
theorem cut_drop (xs:List AV) (k:Nat):cut xs (some (.ofNat k)) none=some (xs.drop k):=by
 unfold cut
 simp only [Zd,takeN_eq,Vq,bound_nat]
 by_cases h:k≤xs.length
 ·rw [Nat.min_eq_left h,List.take_of_length_le (by simp)]
 ·rw [Nat.min_eq_right (by lia),List.drop_of_length_le (by lia),List.drop_of_length_le (by lia)];simp
end
theorem row_loop {n d q r:Nat} {s0:St} {ns:List Int} {pp:Pos} (hn:ns.length≤100):∀ (m i f:Nat) (t:Tr AV) (s:St),RowInv s0 ns q r (d+1) i t s→ns.length=i+m→m < f→∃ t' s',forLoop (EV (n+9)) (.one 4 pp) rowBody [] f (.list q i) ⟨d+1,t⟩ s=some (.next,⟨d+1,t'⟩,s')∧RowInv s0 ns q r (d+1) ns.length t' s'
 | 0,i,f+1,t,s,I,hl,_=>by
  have e:i=ns.length:=by lia
  refine ⟨t,s,?_,e ▸ I⟩
  rw [for_end I.hq (by rw [e];simp)]
  exact e_nil
 | m+1,i,f+1,t,s,I,hl,hf=>by
  have hi:i < ns.length:=by lia
  refine oEEA (row_turn (n:=n) (x:=ns[i]) I (by lia)) fun t1 s1 h1 I1=> ?_
  obtain ⟨t',s',h2,I2⟩:=row_loop hn m (i+1) f t1 s1 I1 (by lia) (by lia)
  refine ⟨t',s',?_,I2⟩
  exact for_turn (l1:=⟨d+1,t.putT 4 (.int ns[i])⟩) I.hq (x:= .int ns[i]) (by rw [List.getElem?_map,Qu hi];rfl) (show bindT (.one 4 pp) (.int ns[i]) ⟨d+1,t⟩=some ⟨d+1,t.putT 4 (.int ns[i])⟩ from Lo.set_eq _ _ _) h1 h2
theorem row_ok {n d a:Nat} {l:Lo} {s:St} {xs:List Int} (hs:s.h.get a=some (.list (xs.map .int))) (ha:a < s.nx) (hx:xs.length≤4000) (hd:l.dep=d+2):
  ∃ m s' cs,callFn P1 (EV (n+10)) 86 [.ref a] l s=some (.ref m,s')∧Ext s s'∧s'.h.get m=some (.list (strs1 cs))∧m < s'.nx∧cs.length≤15∧∀ c∈cs,isSign c:=by
 walk_at "e n d a l s xs|hs ha hx hd"
 let s1:St:=⟨s.h.putT s.nx (.list []),s.nx+1⟩
 let ns:=xs.take 7
 let s2:St:=⟨s1.h.putT s1.nx (.list (ns.map .int)),s1.nx+1⟩
 have hn:ns.length≤7:=by simp only [ns,List.length_take];lia
 let t0:Tr AV:=(((Tr.nil.putT 0 (.ref a)).putT 1 (.ref s.nx)).putT 2 (.boo true)).putT 3 (.int (.ofNat 0))
 have I0:RowInv s ns (s.nx+1) s.nx (d+1) 0 t0 s2:=⟨gg rfl (gg rfl Zy),⟨true,gg rfl Zy⟩,⟨0,Nat.le_refl _,Zy⟩,
  ⟨[],Zb Zg (by refine (?_:s.nx≠s.nx+1);lia),rfl,fun c hc=>nomatch hc⟩,Zg,Nat.le_succ _,Nat.le_refl _,Wz _,by refine (?_:s.nx < s.nx+1+1);lia,by lia,(Ext.push s _).trans (Ext.push s1 _)⟩
 refine oEEA (row_loop (n:=n) (pp:=⟨674,8,674,14⟩) (by lia) ns.length 0 200 t0 s2 I0 (by lia) (by lia)) fun t' s3 h1 I1=> ?_
 refine oE (I1.g2) fun b hb=> ?_
 refine oEA (I1.g3) fun k hk h3=> ?_
 refine oEAA (I1.hr) fun cs c1 c2 c3=> ?_
 have g1:=I1.g1
 have as:s1.h.get a=some (.list (xs.map .int)):=Zb hs (Nat.ne_of_lt ha)
 have esl:(EV (n+9)).ev (.slc (.loc 0 ⟨674,18,674,25⟩) none (some (.num 7 ⟨674,27,674,28⟩)) ⟨674,26,674,28⟩ ⟨674,18,674,29⟩) ⟨d+1,t0⟩ s1=some (.ref s1.nx,s2):=by
  apply x_slc
  ·apply x_loc
   exact gg rfl (gg rfl (gg rfl Zy))
  ·exact optE_none
  ·apply optE_some
   exact x_num
  ·rw [slice_list as (by simpa using hx) (cut_take _ 7)]
   simp only [s2,ns,List.map_take]
 have fin:∀ (s4:St) (cs4:List Nat),Ext s s4→s4.h.get s.nx=some (.list (strs1 cs4))→s.nx < s4.nx→cs4.length≤8→(∀ c∈cs4,isSign c)→
   ∃ m s' cs,(EV (n+10)).exs (b_lrx.drop 5) ⟨d+1,t'⟩ s4=some (.ret (.ref m),⟨d+1,t'⟩,s')∧Ext s s'∧s'.h.get m=some (.list (strs1 cs))∧m < s'.nx∧cs.length≤15∧∀ c∈cs,isSign c:=by
  intro s4 cs4 e4 f1 f2 f3 f4
  let s5:St:=⟨s4.h.putT s4.nx (.list [.str [41]]),s4.nx+1⟩
  let s6:St:=⟨s5.h.putT s5.nx (.list (List.replicate k (.str [41]))),s5.nx+1⟩
  let s7:St:=⟨s6.h.putT s6.nx (.list (strs1 cs4++List.replicate k (.str [41]))),s6.nx+1⟩
  have n1:s.nx≠s4.nx:=Nat.ne_of_lt f2
  refine ⟨s6.nx,s7,cs4++List.replicate k 41,?_,((e4.trans (Ext.push s4 _)).trans (Ext.push s5 _)).trans (Ext.push s6 _),?_,Wz _,by simp;lia,fun c hc=> ?_⟩
  ·unfold b_lrx
   dsimp only [List.drop]
   apply e_ret
   apply x_pre
   ·walk_at "am_ev"
   ·apply x_pre
    ·apply x_lst
     ·rfl
     ·walk_at "am_evs"
    ·walk_at "am_ev"
    ·exact pre_mul Zg (by lia)
   ·refine pre_add (s:=s6) (m:=s.nx) (k:=s5.nx) ?_ Zg (by simp [strs1];lia) (by simp;lia)
    exact Zb (Zb f1 n1) (by refine (?_:s.nx≠s4.nx+1);lia)
  ·skip
   rw [Zg];simp [strs1]
  ·rcases Zx hc with hc | hc
   ·exact f4 c hc
   ·rw [List.mem_replicate] at hc;rw [hc.2];exact .inr (.inr (.inr (.inr (.inr rfl))))
 have whole:∀ m s',(EV (n+10)).exs (b_lrx.drop 4) ⟨d+1,t'⟩ s3=some (.ret (.ref m),⟨d+1,t'⟩,s')→callFn P1 (EV (n+10)) 86 [.ref a] l s=some (.ref m,s'):=by
  intro m s' h
  refine c_fn fn_row rfl rfl hd (by rw [Xz,Yn]) ?_
  apply Exists.intro
  refine (?_:(EV (n+10)).exs b_lrx _ _=_)
  unfold b_lrx
  apply Xq
  ·apply x_lst
   ·rfl
   ·exact Yw
  apply Xq
  ·walk_at "am_ev"
  apply Xq
  ·walk_at "am_ev"
  apply e_for
  ·exact start_slc esl Zg
  ·exact h1
  ·exact h
 cases b with
 | true=>
  let s4:St:=⟨s3.h.putT s.nx (.list (strs1 cs++ [.str [110]])),s3.nx⟩
  have e4:Ext s s4:=⟨fun i hi=>Zb (I1.ext.get i hi) (by lia),I1.ext.nx⟩
  obtain ⟨m,s',cs',h,r1,r2,r3,r4,r5⟩:=fin s4 (cs++ [110]) e4 (by refine (?_:(s3.h.putT s.nx _).get s.nx=_);rw [Zg];simp [strs1]) I1.r1 (by simp;lia) (fun c hc=>by
   rcases Zx hc with hc | hc
   ·exact c3 c hc
   ·rw [List.mem_singleton] at hc;subst hc;exact .inr (.inr (.inr (.inl rfl))))
  refine ⟨m,s',cs',whole m s' ?_,r1,r2,r3,r4,r5⟩
  unfold b_lrx at h ⊢
  dsimp only [List.drop] at h ⊢
  apply e_ife (q:=true)
  ·apply t_loc
   ·exact hb
   ·rfl
  ·apply e_expr
   ·apply x_append
    ·intro _ _ h;cases h
    ·walk_at "am_ev"
    ·exact c1
    ·walk_at "am_ev"
    ·exact c1
    ·simp [strs1];lia
   ·exact e_nil
  ·exact h
 | false=>
  refine oEEEAAAAA (fin s3 cs I1.ext c1 I1.r1 (by lia) c3) fun m s' cs' h r1 r2 r3 r4 r5=> ?_
  refine ⟨m,s',cs',whole m s' ?_,r1,r2,r3,r4,r5⟩
  unfold b_lrx at h ⊢
  dsimp only [List.drop] at h ⊢
  apply e_ife (q:=false)
  ·apply t_loc
   ·exact hb
   ·rfl
  ·exact e_nil
  ·exact h
end
section
inductive T where
 | leaf (c:Nat)
 | node (ts:List T)
noncomputable def T.ctorIdx (x:T):Nat:= @T.casesOn (fun u=>Nat) x (fun u=>0) (fun u=>1)
inductive Act where
 | err | acc
 | shift (j:Nat)
 | red (r:Nat)
noncomputable def Act.ctorIdx (x:Act):Nat:= @Act.casesOn (fun u=>Nat) x 0 1 (fun u=>2) (fun u=>3)
section
variable (dec:Nat→Nat→Nat) (cs:List Nat)
noncomputable def operand (rdf:Nat→Nat→Option (T × Nat)) (pl:Nat):Option (T × Nat):=match cs[pl]? with
 | some c=>
  if c=110 then some (.node [.leaf 110],pl+1)
  else if c=40 then match rdf (pl+1) 0 with
   | some (t,q)=>if cs[q]? =some 41 then some (.node [.leaf 40,t,.leaf 41],q+1) else none
   | none=>none
  else if c=109 then match rdf (pl+1) 85 with
   | some (t,q)=>some (.node [.leaf 109,t],q)
   | none=>none
  else none
 | none=>none
noncomputable def lp (rdf:Nat→Nat→Option (T × Nat)) (pend:Nat):Nat→T→Nat→Option (T × Nat)
 | 0,_,_=>none
 | g+1,t,pl=>match cs[pl]? with
  | some c=>
   if c=97∨c=98 then
    if dec pend c=0 then match rdf (pl+1) c with
     | some (r,q)=>lp rdf pend g (.node [t,.leaf c,r]) q
     | none=>none
    else if dec pend c=1 then some (t,pl)
    else none
   else some (t,pl)
  | none=>some (t,pl)
theorem lp_s {rdf:Nat→Nat→Option (T × Nat)} {pend g:Nat} {t:T} {pl:Nat}:lp dec cs rdf pend (g+1) t pl=match cs[pl]? with
  | some c=>
   if c=97∨c=98 then
    if dec pend c=0 then match rdf (pl+1) c with
     | some (r,q)=>lp dec cs rdf pend g (.node [t,.leaf c,r]) q
     | none=>none
    else if dec pend c=1 then some (t,pl)
    else none
   else some (t,pl)
  | none=>some (t,pl):=rfl
noncomputable def rd:Nat→Nat→Nat→Option (T × Nat)
 | 0,_,_=>none
 | f+1,pl,pend=>match operand cs (rd f) pl with
  | some (t,q)=>lp dec cs (rd f) pend (cs.length+1) t q
  | none=>none
theorem rd_s {f pl pend:Nat}:rd dec cs (f+1) pl pend=match operand cs (rd dec cs f) pl with
  | some (t,q)=>lp dec cs (rd dec cs f) pend (cs.length+1) t q
  | none=>none:=rfl
noncomputable def byDec (p c j r:Nat):Act:=if dec p c=0 then .shift j else if dec p c=1 then .red r else .err
inductive En where
 | go (a:Act)
 | tie (p c j r:Nat)
noncomputable def En.ctorIdx (x:En):Nat:= @En.casesOn (fun u=>Nat) x (fun u=>0) (fun u u u u=>1)
noncomputable def col (la:Option Nat):Nat:=match la with
 | none=>0
 | some c=>if c=97 then 1 else if c=98 then 2 else if c=109 then 3 else if c=110 then 4 else if c=40 then 5 else if c=41 then 6 else 7
noncomputable def rowT (st:Nat):List En:=
 let e:=En.go .err
 let op:=[e,e,e,.go (.shift 2),.go (.shift 4),.go (.shift 3)]
 match st with
 | 0=>op
 | 1=>[.go .acc,.go (.shift 5),.go (.shift 6)]
 | 2=>op
 | 3=>op
 | 4=>[.go (.red 5),.go (.red 5),.go (.red 5),e,e,e,.go (.red 5)]
 | 5=>op
 | 6=>op
 | 7=>[.go (.red 3),.tie 85 97 5 3,.tie 85 98 6 3,e,e,e,.go (.red 3)]
 | 8=>[e,.go (.shift 5),.go (.shift 6),e,e,e,.go (.shift 11)]
 | 9=>[.go (.red 1),.tie 97 97 5 1,.tie 97 98 6 1,e,e,e,.go (.red 1)]
 | 10=>[.go (.red 2),.tie 98 97 5 2,.tie 98 98 6 2,e,e,e,.go (.red 2)]
 | 11=>[.go (.red 4),.go (.red 4),.go (.red 4),e,e,e,.go (.red 4)]
 | _=>[]
noncomputable def pickE:List En→Nat→En
 | [],_=> .go .err
 | x::_,0=>x
 | _::r,k+1=>pickE r k
noncomputable def entA:En→Act
 | .go a=>a
 | .tie p c j r=>byDec dec p c j r
noncomputable def act (st:Nat) (la:Option Nat):Act:=entA dec (pickE (rowT st) (col la))
noncomputable def goTo (st:Nat):Nat:=if st=0 then 1 else if st=2 then 7 else if st=3 then 8 else if st=5 then 9 else if st=6 then 10 else 12
noncomputable def rlen (r:Nat):Nat:=if r=5 then 1 else if r=3 then 2 else 3
noncomputable def top (stk:List (Nat × T)):Nat:=match stk with
 | []=>0
 | x::_=>x.1
noncomputable def lr:Nat→List (Nat × T)→Nat→Option T
 | 0,_,_=>none
 | k+1,stk,pl=>match act dec (top stk) cs[pl]? with
  | .err=>none
  | .acc=>(stk.head?).map (·.2)
  | .shift j=>match cs[pl]? with
   | some c=>lr k ((j,.leaf c)::stk) (pl+1)
   | none=>none
  | .red r=>lr k ((goTo (top (stk.drop (rlen r))),.node ((stk.take (rlen r)).reverse.map (·.2)))::stk.drop (rlen r)) pl
theorem lr_s {k:Nat} {stk:List (Nat × T)} {pl:Nat}:lr dec cs (k+1) stk pl=match act dec (top stk) cs[pl]? with
  | .err=>none
  | .acc=>(stk.head?).map (·.2)
  | .shift j=>match cs[pl]? with
   | some c=>lr dec cs k ((j,.leaf c)::stk) (pl+1)
   | none=>none
  | .red r=>lr dec cs k ((goTo (top (stk.drop (rlen r))),.node ((stk.take (rlen r)).reverse.map (·.2)))::stk.drop (rlen r)) pl:=rfl
theorem lr_mono (k:Nat):∀ (stk:List (Nat × T)) (pl:Nat) (t:T),lr dec cs k stk pl=some t→lr dec cs (k+1) stk pl=some t:=by
 induction k with
 | zero=>intro stk pl t h;exact nos h
 | succ k ih=>
  intro stk pl t h
  rw [lr_s] at h ⊢
  cases e:act dec (top stk) cs[pl]? with
  | err=>rw [e] at h;exact nos h
  | acc=>rw [e] at h;exact h
  | shift j=>
   rw [e] at h
   cases ec:cs[pl]? with
   | none=>rw [ec] at h;exact nos h
   | some c=>
    rw [ec] at h
    dsimp only at h ⊢
    exact ih _ _ _ h
  | red r=>
   rw [e] at h
   exact ih _ _ _ h
theorem lr_mono' (c k:Nat) (stk:List (Nat × T)) (pl:Nat) (t:T) (h:lr dec cs k stk pl=some t):lr dec cs (k+c) stk pl=some t:=by
 induction c with
 | zero=>exact h
 | succ c ih=>exact lr_mono dec cs _ _ _ _ ih
noncomputable def Reach (c:Nat) (a:List (Nat × T)) (p:Nat) (b:List (Nat × T)) (q:Nat):Prop:=∀ k,lr dec cs (k+c) a p=lr dec cs k b q
noncomputable def Dead (a:List (Nat × T)) (p:Nat):Prop:=∀ k,lr dec cs k a p=none
variable {dec cs}
theorem Reach.trans {c c':Nat} {a b d:List (Nat × T)} {p q r:Nat} (h:Reach dec cs c a p b q) (h':Reach dec cs c' b q d r):Reach dec cs (c'+c) a p d r:=fun k=>by
 rw [←Nat.add_assoc];exact (h _).trans (h' k)
theorem Reach.dead {c:Nat} {a b:List (Nat × T)} {p q:Nat} (h:Reach dec cs c a p b q) (d:Dead dec cs b q):Dead dec cs a p:=fun k=>by
 cases e:lr dec cs k a p with
 | none=>rfl
 | some t=>
  have:=lr_mono' dec cs c k a p t e
  rw [h k,d k] at this
  exact nos this
theorem reach_shift {stk:List (Nat × T)} {pl c j:Nat} (h:act dec (top stk) (some c)= .shift j) (hc:cs[pl]? =some c):Reach dec cs 1 stk pl ((j,.leaf c)::stk) (pl+1):=fun k=>by
 rw [lr_s,hc,h]
theorem reach_red {stk:List (Nat × T)} {pl r:Nat} (h:act dec (top stk) cs[pl]? = .red r):Reach dec cs 1 stk pl ((goTo (top (stk.drop (rlen r))),.node ((stk.take (rlen r)).reverse.map (·.2)))::stk.drop (rlen r)) pl:=fun k=>by
 rw [lr_s,h]
theorem dead_err {stk:List (Nat × T)} {pl:Nat} (h:act dec (top stk) cs[pl]? = .err):Dead dec cs stk pl:=fun k=>by
 cases k with
 | zero=>rfl
 | succ k=>rw [lr_s,h]
noncomputable def bad (cs:List Nat) (q:Nat):Prop:=cs[q]? =some 110∨cs[q]? =some 109∨cs[q]? =some 40
noncomputable def Ctx (p st:Nat):Prop:=(p=0∧(st=0∨st=3))∨(p=85∧st=2)∨(p=97∧st=5)∨(p=98∧st=6)
structure Read (dec:Nat→Nat→Nat) (cs:List Nat) (stk:List (Nat × T)) (pl:Nat) (t:T) (q:Nat):Prop where
 lt:pl < q
 le:q≤cs.length
 bd:bad cs q→Dead dec cs stk pl
 gd:¬bad cs q→∃ c,c≤2 * (q - pl)∧Reach dec cs c stk pl ((goTo (top stk),t)::stk) q
noncomputable def Outcome (dec:Nat→Nat→Nat) (cs:List Nat) (stk:List (Nat × T)) (pl:Nat) (p:Nat) (r:Option (T × Nat)):Prop:=match r with
 | none=>Dead dec cs stk pl
 | some (t,q)=>Read dec cs stk pl t q∧∀ c,cs[q]? =some c→c=97∨c=98→dec p c=1
variable {dec:Nat→Nat→Nat} {cs:List Nat}
theorem byDec_0 {p c j r:Nat} (h:dec p c=0):byDec dec p c j r= .shift j:=if_pos h
theorem byDec_1 {p c j r:Nat} (h:dec p c=1):byDec dec p c j r= .red r:=by unfold byDec;rw [h];rfl
theorem byDec_2 {p c j r:Nat} (h:¬dec p c=0) (k:¬dec p c=1):byDec dec p c j r= .err:=by unfold byDec;rw [if_neg h,if_neg k]
theorem col_lt (la:Option Nat):col la < 8:=by
 unfold col
 split
 ·decide
 ·repeat' (split;decide)
  decide
theorem Xn {p:Prop} [Decidable p] {a b k:Nat} (h1:p→a≠k) (h2:¬p→b≠k):(if p then a else b)≠k:=by
 by_cases h:p
 ·rw [if_pos h];exact h1 h
 ·rw [if_neg h];exact h2 h
theorem col_of {c k:Nat} (h:(c,k)∈[(109,3),(110,4),(40,5)]) {la:Option Nat} (hla:la≠some c):col la≠k:=by
 have n:∀ {a b:Nat},Nat.beq a b=false→a≠b:=Nat.ne_of_beq_eq_false
 have m:(c=109∧k=3)∨(c=110∧k=4)∨(c=40∧k=5):=by simpa using h
 cases la with
 | none=>rcases m with ⟨_,rfl⟩ | ⟨_,rfl⟩ | ⟨_,rfl⟩ <;> exact n rfl
 | some d=>
  have hd:d≠c:=fun q=>hla (congrArg some q)
  refine (?_:(if d=97 then 1 else if d=98 then 2 else if d=109 then 3 else if d=110 then 4 else if d=40 then 5 else if d=41 then 6 else 7)≠k)
  rcases m with ⟨rfl,rfl⟩ | ⟨rfl,rfl⟩ | ⟨rfl,rfl⟩
  ·exact Xn (fun uu=>n rfl) fun uu=>Xn (fun uu=>n rfl) fun uu=>Xn (fun q=>absurd q hd) fun uu=>Xn (fun uu=>n rfl) fun uu=>Xn (fun uu=>n rfl) fun uu=>Xn (fun uu=>n rfl) fun uu=>n rfl
  ·exact Xn (fun uu=>n rfl) fun uu=>Xn (fun uu=>n rfl) fun uu=>Xn (fun uu=>n rfl) fun uu=>Xn (fun q=>absurd q hd) fun uu=>Xn (fun uu=>n rfl) fun uu=>Xn (fun uu=>n rfl) fun uu=>n rfl
  ·exact Xn (fun uu=>n rfl) fun uu=>Xn (fun uu=>n rfl) fun uu=>Xn (fun uu=>n rfl) fun uu=>Xn (fun uu=>n rfl) fun uu=>Xn (fun q=>absurd q hd) fun uu=>Xn (fun uu=>n rfl) fun uu=>n rfl
noncomputable def isOp (st:Nat):Bool:=Nat.beq st 0 || Nat.beq st 2 || Nat.beq st 3 || Nat.beq st 5 || Nat.beq st 6
noncomputable def isErr (e:En):Bool:=match e with
 | .go a=>(match a with | .err=>true | _=>false)
 | _=>false
theorem isErr_spec {e:En} (h:isErr e=true):e= .go .err:=by
 cases e with
 | go a=>cases a with
  | err=>rfl
  | _=>exact fat h
 | _=>exact fat h
theorem op_err:∀ st,st < 7→isOp st=true→∀ k,k < 8→k≠3→k≠4→k≠5→pickE (rowT st) k= .go .err:=by
 have:∀ st,st < 7→isOp st=true→∀ k,k < 8→(k=3∨k=4∨k=5∨isErr (pickE (rowT st) k)=true):=by decide+kernel
 intro st h1 h2 k h3 h4 h5 h6
 exact isErr_spec (((this st h1 h2 k h3).resolve_left h4 |>.resolve_left h5).resolve_left h6)
theorem ctx_op {p st:Nat} (h:Ctx p st):st < 7∧isOp st=true:=by
 rcases h with ⟨_,rfl | rfl⟩ | ⟨_,rfl⟩ | ⟨_,rfl⟩ | ⟨_,rfl⟩ <;> exact ⟨by decide,rfl⟩
theorem ctx_err {p:Nat} {stk:List (Nat × T)} {pl:Nat} (h:Ctx p (top stk)) (hc:cs[pl]? ≠some 110∧cs[pl]? ≠some 109∧cs[pl]? ≠some 40):Dead dec cs stk pl:=by
 refine dead_err ?_
 obtain ⟨h1,h2⟩:=ctx_op h
 refine (?_:entA dec (pickE (rowT (top stk)) (col cs[pl]?))=_)
 rw [op_err _ h1 h2 _ (col_lt _) (col_of (c:=109) (.head _) hc.2.1) (col_of (c:=110) (.tail _ (.head _)) hc.1) (col_of (c:=40) (.tail _ (.tail _ (.head _))) hc.2.2)];rfl
noncomputable def isSh (n:Nat) (e:En):Bool:=match e with
 | .go a=>(match a with | .shift k=>Nat.beq k n | _=>false)
 | _=>false
theorem isSh_spec {n:Nat} {e:En} (h:isSh n e=true):e= .go (.shift n):=by
 cases e with
 | go a=>cases a with
  | shift k=>exact congrArg (fun k=>En.go (.shift k)) (Qy h)
  | _=>exact fat h
 | _=>exact fat h
theorem ctx_shift {p c j:Nat} {stk:List (Nat × T)} {pl:Nat} (h:Ctx p (top stk)) (hc:cs[pl]? =some c) (hj:(c=109∧j=2)∨(c=40∧j=3)∨(c=110∧j=4)):Reach dec cs 1 stk pl ((j,.leaf c)::stk) (pl+1):=by
 refine reach_shift ?_ hc
 obtain ⟨h1,h2⟩:=ctx_op h
 have key:∀ st,st < 7→isOp st=true→(isSh 2 (pickE (rowT st) 3) && isSh 3 (pickE (rowT st) 5) && isSh 4 (pickE (rowT st) 4))=true:=by decide+kernel
 have key:=bt2 (key _ h1 h2)
 rcases hj with ⟨rfl,rfl⟩ | ⟨rfl,rfl⟩ | ⟨rfl,rfl⟩
 ·refine (?_:entA dec (pickE (rowT (top stk)) 3)=_);rw [isSh_spec key.1.1];rfl
 ·refine (?_:entA dec (pickE (rowT (top stk)) 5)=_);rw [isSh_spec key.1.2];rfl
 ·refine (?_:entA dec (pickE (rowT (top stk)) 4)=_);rw [isSh_spec key.2];rfl
theorem bad_dec (cs:List Nat) (q:Nat):bad cs q∨¬bad cs q:=Classical.em _
theorem not_bad (hs:∀ c∈cs,c=97∨c=98∨c=109∨c=110∨c=40∨c=41) {q:Nat} (h:¬bad cs q):cs[q]? =none∨cs[q]? =some 41∨cs[q]? =some 97∨cs[q]? =some 98:=by
 cases e:cs[q]? with
 | none=>exact .inl rfl
 | some c=>
  have:=hs c (Qx e)
  unfold bad at h
  rw [e] at h
  rcases this with rfl | rfl | rfl | rfl | rfl | rfl
  ·exact .inr (.inr (.inl rfl))
  ·exact .inr (.inr (.inr rfl))
  ·exact absurd (.inr (.inl rfl)) h
  ·exact absurd (.inl rfl) h
  ·exact absurd (.inr (.inr rfl)) h
  ·exact .inr (.inl rfl)
theorem ctx_goto {p st:Nat} (h:Ctx p st):(p=0∧(goTo st=1∨goTo st=8))∨(p=85∧goTo st=7)∨(p=97∧goTo st=9)∨(p=98∧goTo st=10):=by
 rcases h with ⟨rfl,rfl | rfl⟩ | ⟨rfl,rfl⟩ | ⟨rfl,rfl⟩ | ⟨rfl,rfl⟩
 ·exact .inl ⟨rfl,.inl rfl⟩
 ·exact .inl ⟨rfl,.inr rfl⟩
 ·exact .inr (.inl ⟨rfl,rfl⟩)
 ·exact .inr (.inr (.inl ⟨rfl,rfl⟩))
 ·exact .inr (.inr (.inr ⟨rfl,rfl⟩))
theorem y14 {q q2 g n:Nat} (hg:n < q+(g+1)) (h:q < q2):n < q2+g:=Wx hg (by rw [Nat.add_comm g 1,←Nat.add_assoc];exact Nat.add_le_add_right h g)
theorem y10 {q q2 g n:Nat} (hg:n < q+(g+1)) (h:q+1 < q2):n < q2+g:=y14 hg (Nat.lt_of_succ_lt h)
theorem y11 {pl q q2 c0 c2:Nat} (h:pl < q) (h2:q+1 < q2) (k0:c0≤2 * (q - pl)) (k2:c2≤2 * (q2 - (q+1))):1+(c2+(1+c0))≤2 * (q2 - pl):=by
 have e:q2 - pl=q2 - (q+1)+(q - pl+1):=by
  rw [←Nat.sub_add_comm (Nat.le_of_lt h)];exact (Nat.sub_add_sub_cancel (Nat.le_of_lt h2) (Nat.le_succ_of_le (Nat.le_of_lt h))).symm
 rw [e,Nat.mul_add,Nat.mul_add 2 (q - pl) 1,Nat.add_left_comm 1 c2,←Nat.add_assoc 1 1 c0,Nat.add_comm (1+1) c0]
 exact Nat.add_le_add k2 (Nat.add_le_add_right k0 2)
theorem y12 {pl q k:Nat} (h:pl+1 < q) (k2:k≤2 * (q - (pl+1))):1+(1+(k+1))≤2 * (q+1 - pl):=by
 have e:q+1 - pl=q - (pl+1)+2:=by rw [Nat.succ_sub (Nat.le_of_lt (Nat.lt_of_succ_lt h)),y0 (Nat.lt_of_succ_lt h)]
 rw [e,Nat.mul_add,←Nat.add_assoc 1 1,Nat.add_comm (1+1),Nat.add_assoc]
 exact Nat.add_le_add k2 (by decide)
theorem y13 {pl q k:Nat} (h:pl+1 < q) (k2:k≤2 * (q - (pl+1))):1+(k+1)≤2 * (q - pl):=by
 rw [y0 (Nat.lt_of_succ_lt h),Nat.mul_add,Nat.add_comm,Nat.add_assoc]
 exact Nat.add_le_add k2 (by decide)
theorem loop_sim (hs:∀ c∈cs,c=97∨c=98∨c=109∨c=110∨c=40∨c=41) (hd:∀ c,dec 0 c=0) {f p:Nat} {stk:List (Nat × T)} {pl:Nat} (hp:Ctx p (top stk))
  (IH:∀ pl' p' (stk':List (Nat × T)),Ctx p' (top stk')→pl < pl'→pl'≤cs.length→Outcome dec cs stk' pl' p' (rd dec cs f pl' p')):
  ∀ (g:Nat) (t:T) (q:Nat),cs.length < q+g→Read dec cs stk pl t q→Outcome dec cs stk pl p (lp dec cs (rd dec cs f) p g t q):=by
 walk_at "e dec cs|hs hd|f p stk pl|hp IH"
 intro g
 induction g with
 | zero=>intro t q hg R;exact absurd hg (Nat.not_lt.mpr R.le)
 | succ g ih=>
  intro t q hg R
  walk_at "e g|ih|q|hg R"
  rw [lp_s]
  cases e:cs[q]? with
  | none=>exact ⟨R,fun c h=>by rw [e] at h;exact nos h⟩
  | some c=>
   dsimp only
   by_cases hc:c=97∨c=98
   ·rw [if_pos hc]
    have nb:¬bad cs q:=by
     unfold bad;rw [e];rcases hc with rfl | rfl <;> decide
    obtain ⟨c0,k0,r0⟩:=R.gd nb
    have hq:q < cs.length:=(Wn e).1
    by_cases h0:dec p c=0
    ·rw [if_pos h0]
     have hsh:∃ j,(j=5∧c=97∨j=6∧c=98)∧act dec (goTo (top stk)) (some c)= .shift j:=by
      rcases hc with rfl | rfl
      ·refine ⟨5,.inl ⟨rfl,rfl⟩,?_⟩
       rcases ctx_goto hp with ⟨rfl,h | h⟩ | ⟨rfl,h⟩ | ⟨rfl,h⟩ | ⟨rfl,h⟩ <;> rw [h] <;> first | rfl | exact byDec_0 h0
      ·refine ⟨6,.inr ⟨rfl,rfl⟩,?_⟩
       rcases ctx_goto hp with ⟨rfl,h | h⟩ | ⟨rfl,h⟩ | ⟨rfl,h⟩ | ⟨rfl,h⟩ <;> rw [h] <;> first | rfl | exact byDec_0 h0
     obtain ⟨j,hj,ha⟩:=hsh
     have r1:=r0.trans (reach_shift (stk:=(goTo (top stk),t)::stk) ha e)
     have hctx:Ctx c (top ((j,T.leaf c)::(goTo (top stk),t)::stk)):= .inr (.inr (hj.imp And.symm And.symm))
     have O:=IH (q+1) c ((j,.leaf c)::(goTo (top stk),t)::stk) hctx (Nat.lt_succ_of_lt R.lt) hq
     cases er:rd dec cs f (q+1) c with
     | none=>rw [er] at O;exact r1.dead O
     | some tq=>
      obtain ⟨t2,q2⟩:=tq
      rw [er] at O
      obtain ⟨R2,E2⟩:=O
      have hlt:=R2.lt
      refine ih _ q2 (y10 hg hlt) ⟨Nat.lt_trans R.lt (Nat.lt_of_succ_lt hlt),R2.le,fun b=>r1.dead (R2.bd b),fun nb2=> ?_⟩
      obtain ⟨c2,k2,r2⟩:=R2.gd nb2
      have r3:=r1.trans r2
      have hg:goTo (top ((j,T.leaf c)::(goTo (top stk),t)::stk))=(if c=97 then 9 else 10):=by
       skip
       rcases hj with ⟨rfl,rfl⟩ | ⟨rfl,rfl⟩ <;> rfl
      rw [hg] at r3
      have hr:act dec (top ((if c=97 then 9 else 10,t2)::(j,T.leaf c)::(goTo (top stk),t)::stk)) cs[q2]? = .red (if c=97 then 1 else 2):=by
       have nb3:=not_bad hs nb2
       unfold top;dsimp only
       rcases nb3 with h | h | h | h
       ·rw [h];rcases hc with rfl | rfl <;> rfl
       ·rw [h];rcases hc with rfl | rfl <;> rfl
       ·have:=E2 97 h (.inl rfl)
        rw [h];rcases hc with rfl | rfl <;> exact byDec_1 this
       ·have:=E2 98 h (.inr rfl)
        rw [h];rcases hc with rfl | rfl <;> exact byDec_1 this
      have r4:=r3.trans (reach_red hr)
      have hl:rlen (if c=97 then 1 else 2)=3:=by rcases hc with rfl | rfl <;> rfl
      rw [hl] at r4
      exact ⟨1+(c2+(1+c0)),y11 R.lt hlt k0 k2,r4⟩
    ·rw [if_neg h0]
     by_cases h1:dec p c=1
     ·rw [if_pos h1]
      exact ⟨R,fun c' h uu=>by rw [e] at h;refine e1 h ?_;exact h1⟩
     ·rw [if_neg h1]
      refine r0.dead (dead_err ?_)
      rw [e]
      have hp0:p≠0:=fun h=>h0 (by rw [h];exact hd c)
      rcases hc with rfl | rfl
      ·rcases ctx_goto hp with ⟨rfl,h | h⟩ | ⟨rfl,h⟩ | ⟨rfl,h⟩ | ⟨rfl,h⟩ <;> first | exact absurd rfl hp0 | (rw [h];exact byDec_2 h0 h1)
      ·rcases ctx_goto hp with ⟨rfl,h | h⟩ | ⟨rfl,h⟩ | ⟨rfl,h⟩ | ⟨rfl,h⟩ <;> first | exact absurd rfl hp0 | (rw [h];exact byDec_2 h0 h1)
   ·rw [if_neg hc]
    exact ⟨R,fun c' h h'=>by rw [e] at h;(obtain rfl:=Qz h);exact absurd h' hc⟩
noncomputable def OpR (dec:Nat→Nat→Nat) (cs:List Nat) (stk:List (Nat × T)) (pl:Nat):Option (T × Nat)→Prop
 | none=>Dead dec cs stk pl
 | some (t,q)=>Read dec cs stk pl t q
theorem read_sim (hs:∀ c∈cs,c=97∨c=98∨c=109∨c=110∨c=40∨c=41) (hd:∀ c,dec 0 c=0):∀ (f pl p:Nat) (stk:List (Nat × T)),Ctx p (top stk)→pl≤cs.length→cs.length < pl+f→Outcome dec cs stk pl p (rd dec cs f pl p):=by
 intro f
 induction f with
 | zero=>intro pl p stk uu h1 h2;exact absurd h2 (Nat.not_lt.mpr h1)
 | succ f ih=>
  intro pl p stk hp h1 h2
  walk_at "e dec cs|hs hd|f|ih|pl p stk|hp h1 h2"
  have IH:∀ pl' p' (stk':List (Nat × T)),Ctx p' (top stk')→pl < pl'→pl'≤cs.length→Outcome dec cs stk' pl' p' (rd dec cs f pl' p'):=fun pl' p' stk' a b c=>ih pl' p' stk' a c (y14 h2 b)
  have op:OpR dec cs stk pl (operand cs (rd dec cs f) pl):=by
   unfold operand
   cases e:cs[pl]? with
   | none=>exact ctx_err hp (by rw [e];simp)
   | some c=>
    have hlt:pl < cs.length:=(Wn e).1
    dsimp only
    by_cases c1:c=110
    ·rw [if_pos c1]
     subst c1
     have r1:Reach dec cs 1 stk pl _ _:=ctx_shift hp e (.inr (.inr ⟨rfl,rfl⟩))
     refine ⟨Wz _,hlt,fun b=>r1.dead (dead_err ?_),fun nb=> ?_⟩
     ·skip
      rcases b with b | b | b <;> rw [b] <;> rfl
     ·have hr:act dec (top ((4,T.leaf 110)::stk)) cs[pl+1]? = .red 5:=by
       unfold top;dsimp only
       rcases not_bad hs nb with h | h | h | h <;> rw [h] <;> rfl
      exact ⟨1+1,by rw [Nat.add_sub_cancel_left];decide,r1.trans (reach_red hr)⟩
    rw [if_neg c1]
    by_cases c2:c=40
    ·rw [if_pos c2]
     subst c2
     have r1:Reach dec cs 1 stk pl _ _:=ctx_shift hp e (.inr (.inl ⟨rfl,rfl⟩))
     have O:=IH (pl+1) 0 ((3,.leaf 40)::stk) (.inl ⟨rfl,.inr rfl⟩) (Wz _) hlt
     cases er:rd dec cs f (pl+1) 0 with
     | none=>rw [er] at O;exact r1.dead O
     | some tq=>
      obtain ⟨t2,q2⟩:=tq
      rw [er] at O
      obtain ⟨R2,E2⟩:=O
      have l2:=R2.lt
      dsimp only
      rcases bad_dec cs q2 with b | nb
      ·have:¬cs[q2]? =some 41:=by unfold bad at b;rcases b with b | b | b <;> rw [b] <;> simp
       rw [if_neg this]
       exact r1.dead (R2.bd b)
      ·obtain ⟨k2,hk2,r2⟩:=R2.gd nb
       have r3:=r1.trans r2
       by_cases h41:cs[q2]? =some 41
       ·rw [if_pos h41]
        have hq:q2 < cs.length:=(Wn h41).1
        have r4:=r3.trans (reach_shift (j:=11) (c:=41) (by rfl) h41)
        refine ⟨Nat.lt_succ_of_lt (Nat.lt_of_succ_lt l2),hq,fun b=>r4.dead (dead_err ?_),fun nb2=> ?_⟩
        ·skip;unfold top;dsimp only
         rcases b with b | b | b <;> rw [b] <;> rfl
        ·have hr:act dec 11 cs[q2+1]? = .red 4:=by
          rcases not_bad hs nb2 with h | h | h | h <;> rw [h] <;> rfl
         exact ⟨1+(1+(k2+1)),y12 l2 hk2,r4.trans (reach_red (stk:=(11,.leaf 41)::_) hr)⟩
       ·rw [if_neg h41]
        refine r3.dead (dead_err ?_)
        rcases not_bad hs nb with h | h | h | h
        ·rw [h];rfl
        ·exact absurd h h41
        ·have:=E2 97 h (.inl rfl);rw [hd] at this;cases this
        ·have:=E2 98 h (.inr rfl);rw [hd] at this;cases this
    rw [if_neg c2]
    by_cases c3:c=109
    ·rw [if_pos c3]
     subst c3
     have r1:Reach dec cs 1 stk pl _ _:=ctx_shift hp e (.inl ⟨rfl,rfl⟩)
     have O:=IH (pl+1) 85 ((2,.leaf 109)::stk) (.inr (.inl ⟨rfl,rfl⟩)) (Wz _) hlt
     cases er:rd dec cs f (pl+1) 85 with
     | none=>rw [er] at O;exact r1.dead O
     | some tq=>
      obtain ⟨t2,q2⟩:=tq
      rw [er] at O
      obtain ⟨R2,E2⟩:=O
      have l2:=R2.lt
      refine ⟨Nat.lt_of_succ_lt l2,R2.le,fun b=>r1.dead (R2.bd b),fun nb=> ?_⟩
      obtain ⟨k2,hk2,r2⟩:=R2.gd nb
      have hr:act dec 7 cs[q2]? = .red 3:=by
       rcases not_bad hs nb with h | h | h | h
       ·rw [h];rfl
       ·rw [h];rfl
       ·have:=E2 97 h (.inl rfl);rw [h];exact byDec_1 this
       ·have:=E2 98 h (.inr rfl);rw [h];exact byDec_1 this
      exact ⟨1+(k2+1),y13 l2 hk2,(r1.trans r2).trans (reach_red (stk:=(7,t2)::_) hr)⟩
    rw [if_neg c3]
    exact ctx_err hp (by rw [e];exact ⟨fun q=>c1 (Qz q),fun q=>c3 (Qz q),fun q=>c2 (Qz q)⟩)
  rw [rd_s]
  cases eo:operand cs (rd dec cs f) pl with
  | none=>rw [eo] at op;exact op
  | some tq=>
   obtain ⟨t,q⟩:=tq
   rw [eo] at op
   exact loop_sim hs hd hp IH _ t q (Wx (Wz _) (Nat.le_add_left _ _)) op
noncomputable def due (dec:Nat→Nat→Nat) (cs:List Nat):Option T:=match rd dec cs (cs.length+1) 0 0 with
 | some (t,q)=>if q=cs.length then some t else none
 | none=>none
theorem tables_read (hs:∀ c∈cs,c=97∨c=98∨c=109∨c=110∨c=40∨c=41) (hd:∀ c,dec 0 c=0) (k:Nat) (hk:2 * cs.length+1≤k):lr dec cs k [] 0=due dec cs:=by
 have O:=read_sim hs hd (cs.length+1) 0 0 [] (.inl ⟨rfl,.inl rfl⟩) (Nat.zero_le _) (by rw [Nat.zero_add];exact Wz _)
 unfold due
 cases e:rd dec cs (cs.length+1) 0 0 with
 | none=>rw [e] at O;exact O k
 | some tq=>
  obtain ⟨t,q⟩:=tq
  rw [e] at O
  obtain ⟨R,E⟩:=O
  dsimp only
  rcases bad_dec cs q with b | nb
  ·have:q≠cs.length:=by
    rintro rfl
    unfold bad at b
    simp at b
   rw [if_neg this]
   exact R.bd b k
  ·obtain ⟨c,hc,r⟩:=R.gd nb
   have hc':c≤2 * q:=hc
   have hq:=R.le
   by_cases hl:q=cs.length
   ·rw [if_pos hl]
    have:k=(k - c - 1)+1+c:=y3 (Nat.le_trans (Nat.succ_le_succ (by rw [←hl];exact hc')) hk)
    rw [this,r,lr_s]
    have:cs[q]? =none:=by rw [hl];simp
    rw [this]
    have e2:act dec (top [(goTo (top ([]:List (Nat × T))),t)]) none= .acc:=by rfl
    rw [e2];rfl
   ·rw [if_neg hl]
    refine r.dead (dead_err ?_) k
    rcases not_bad hs nb with h | h | h | h
    ·rw [List.getElem?_eq_none_iff] at h;exact absurd (Nat.le_antisymm hq h) hl
    ·rw [h];rfl
    ·have:=E 97 h (.inl rfl);rw [hd] at this;cases this
    ·have:=E 98 h (.inr rfl);rw [hd] at this;cases this
end
end
section
open PySem (Pos CmpOp Operator)
mutual
inductive RepT (s:St):AV→T→Prop
 | leaf (c:Nat):RepT s (.str [c]) (.leaf c)
 | node {r:Nat} {vs:List AV} {ts:List T} (h:s.h.get r=some (.list vs)) (hr:r < s.nx) (hv:Reps s vs ts):RepT s (.ref r) (.node ts)
inductive Reps (s:St):List AV→List T→Prop
 | nil:Reps s [] []
 | cons {v:AV} {t:T} {vs:List AV} {ts:List T} (h:RepT s v t) (r:Reps s vs ts):Reps s (v::vs) (t::ts)
end
theorem RepT.mono {s s':St} (e:Ext s s') {v:AV} {t:T} (h:RepT s v t):RepT s' v t:=
 RepT.rec (motive_1:=fun v t uu=>RepT s' v t) (motive_2:=fun vs ts uu=>Reps s' vs ts) .leaf (fun h hr uu i=> .node ((e.get _ hr).trans h) (Wx hr e.nx) i) .nil (fun uu uu a b=> .cons a b) h
noncomputable def pn (p:Nat):List Nat:=if p=0 then [] else [p]
noncomputable def txt (k:Nat):List Nat:=if k=0 then sGo else if k=1 then sBack else sRef
theorem fn_read:P1.fn 87=some f_lr:=rfl
structure RK (wr ep m:Nat) (es:List (AV × AV)) (cs:List Nat) (s:St):Prop where
 w:s.h.get wr=some (.dict es ep)
 wl:wr < s.nx
 r:s.h.get m=some (.list (strs1 cs))
 ml:m < s.nx
theorem RK.mono {wr ep m:Nat} {es:List (AV × AV)} {cs:List Nat} {s s':St} (k:RK wr ep m es cs s) (e:Ext s s'):RK wr ep m es cs s':=
 ⟨(e.get _ k.wl).trans k.w,Wx k.wl e.nx,(e.get _ k.ml).trans k.r,Wx k.ml e.nx⟩
noncomputable def SetOk (dec:Nat→Nat→Nat) (wr ep:Nat) (es:List (AV × AV)):Prop:=∀ {n d:Nat} {l:Lo} {s:St} (p c:Nat),p=0∨p=85∨p=97∨p=98→c=97∨c=98→s.h.get wr=some (.dict es ep)→l.dep=d+1→
 callFn P1 (EV (n+8)) 97 [.ref wr,.str (pn p),.str [c]] l s=some (.str (txt (dec p c)),s)
structure LI (wr m p:Nat) (dd:Nat) (t:Tr AV) (pl:Nat):Prop where
 g0:(Lo.mk dd t).get 0=some (.ref wr)
 g1:(Lo.mk dd t).get 1=some (.ref m)
 g2:(Lo.mk dd t).get 2=some (.int (.ofNat pl))
 g3:(Lo.mk dd t).get 3=some (.str (pn p))
theorem ge_int {s:St} {i j:Int}:cmpV .GtE (.int i) (.int j) s=some (decide (j≤i)):=by
 refine (?_:some (!ltI i j)=_)
 rw [ltI_eq]
 by_cases h:i < j
 ·simp [h]
 ·simp [h];lia
section
variable {n:Nat} {l l1:Lo} {s s1:St} {p:Pos} {c:CS} {rest:List CS} {r:Option (Fl × Lo × St)}
theorem e_one_next (h1:(EV (n+1)).exs [c] l s=some (.next,l1,s1)) (h2:(EV (n+1)).exs rest l1 s1=r):(EV (n+1)).exs (c::rest) l s=r:=by
 walk_at "e n l l1 s s1 c rest r|h1 h2"
 refine m32 h1 fun fl l2 s2 h e=> ?_
 refine gF e ?_
 cases fl <;> first | ((refine oAA (i3 h) fun q0z q1z q2z=> ?_;subst q1z q2z);exact h2) | cases h
theorem e_one_ret {v:AV} (h1:(EV (n+1)).exs [c] l s=some (.ret v,l1,s1)):(EV (n+1)).exs (c::rest) l s=some (.ret v,l1,s1):=by
 refine m32 h1 fun fl l2 s2 h e=> ?_
 refine gF e ?_
 cases fl <;> first | cases h;done | exact h
end
theorem Vh {cs:List Nat} {i c:Nat} (h:cs[i]? =some c):(strs1 cs)[i]? =some (.str [c]):=by unfold strs1;rw [List.getElem?_map,h];rfl
theorem Zn (cs:List Nat):(strs1 cs).length=cs.length:=by simp [strs1]
noncomputable def RdR (cs:List Nat) (pl:Nat) (s':St) (v:AV):Option (T × Nat)→Prop
 | none=>v= .non
 | some (t,q)=>∃ tv,v= .tup [tv,.int (.ofNat q)]∧RepT s' tv t∧pl < q∧q≤cs.length
noncomputable def LpR (cs:List Nat) (wr m p dd pl:Nat) (s':St) (fl:Fl) (l':Lo):Option (T × Nat)→Prop
 | none=>fl= .ret .non
 | some (tt,q)=>fl= .next∧∃ t' tv,l'=⟨dd,t'⟩∧LI wr m p dd t' q∧(Lo.mk dd t').get 4=some tv∧RepT s' tv tt∧pl < q∧q≤cs.length
theorem LpR.mk {cs:List Nat} {wr m p dd pl q:Nat} {s':St} {t':Tr AV} {tv:AV} {tt:T} (a:LI wr m p dd t' q) (b:(Lo.mk dd t').get 4=some tv) (c:RepT s' tv tt) (d:pl < q) (e:q≤cs.length):LpR cs wr m p dd pl s' .next ⟨dd,t'⟩ (some (tt,q)):=⟨rfl,_,_,rfl,a,b,c,d,e⟩
noncomputable def Below (dec:Nat→Nat→Nat) (cs:List Nat) (wr ep m:Nat) (es:List (AV × AV)) (f N dd:Nat) (pl:Nat):Prop:=∀ (pl' p':Nat) (s:St) (N':Nat) (l:Lo),p'=0∨p'=85∨p'=97∨p'=98→pl < pl'→pl'≤cs.length→RK wr ep m es cs s→N≤N'→l.dep=dd→
 ∃ v s',callFn P1 (EV N') 87 [.ref wr,.ref m,.int (.ofNat pl'),.str (pn p')] l s=some (v,s')∧Ext s s'∧RdR cs pl' s' v (rd dec cs f pl' p')
noncomputable def opStmt:List CS:=match b_lr with
 | _::c::_=>[c]
 | _=>[]
theorem op_ok {dec:Nat→Nat→Nat} {cs:List Nat} {wr ep m:Nat} {es:List (AV × AV)} {f M dd pl p:Nat} {t:Tr AV} {s:St} (hl:cs.length≤100) (B:Below dec cs wr ep m es f M dd pl) (K:RK wr ep m es cs s) (I:LI wr m p dd t pl) (hpl:pl < cs.length):
  ∃ fl l' s',(EV (M+20)).exs opStmt ⟨dd,t⟩ s=some (fl,l',s')∧Ext s s'∧LpR cs wr m p dd pl s' fl l' (operand cs (rd dec cs f) pl):=by
 walk_at "e dec cs wr ep m es f M dd pl p t s|hl B K I hpl"
 obtain ⟨g0,g1,g2,g3⟩:=I
 obtain ⟨c,hc⟩:∃ c,cs[pl]? =some c:=⟨_,Qu hpl⟩
 have q0:getI (.ref m) (.int (.ofNat pl)) s=some (.str [c]):=Xh K.r (by rw [Zn];lia) (Vh hc)
 have hsm:small (strs1 cs)=true:=Yx (by rw [Zn];lia)
 have e1:(Int.ofNat pl+Int.ofNat 1:Int)=Int.ofNat (pl+1):=rfl
 unfold operand
 rw [hc]
 dsimp only
 by_cases c1:c=110
 ·rw [if_pos c1]
  let s1:St:=⟨s.h.putT s.nx (.list [.str [110]]),s.nx+1⟩
  refine ⟨.next,⟨dd,(t.putT 4 (.ref s.nx)).putT 2 (.int (.ofNat (pl+1)))⟩,s1,?_,Ext.push s _,rfl,_,.ref s.nx,rfl,⟨gg rfl (gg rfl g0),gg rfl (gg rfl g1),Zy,gg rfl (gg rfl g3)⟩,gg rfl Zy,?_,by lia,by lia⟩
  ·unfold opStmt b_lr
   dsimp only
   apply e_ife (q:=true)
   ·apply t_cmp
    ·walk_at "am_ev"
    ·walk_at "am_ev"
    ·rw [eq_str,c1];simp
   ·apply Xq
    ·apply x_lst
     ·rfl
     ·walk_at "am_evs"
    apply Xq
    ·walk_at "am_ev"
    exact e_nil
   ·exact e_nil
  ·exact .node Zg (Wz _) (.cons (.leaf 110) .nil)
 rw [if_neg c1]
 by_cases c2:c=40
 ·rw [if_pos c2]
  refine oEEAA (B (pl+1) 0 s (M+16) ⟨dd,t⟩ (.inl rfl) (Wz _) hpl K (by lia) rfl) fun v s1 hv x1 hr=> ?_
  have K1:=K.mono x1
  have call:∀ {p1 p2 p3 p4 p5 p6 p7 p8:Pos},(EV (M+17)).ev (.calG 87 p1 [.loc 0 p2,.loc 1 p3,.bin (.loc 2 p4) .Add (.num 1 p5) p6,.str 21 p7] p8) ⟨dd,t⟩ s=some (v,s1):=by
   intros
   apply x_call
   ·rfl
   ·walk_at "am_evs"
   ·rfl
   ·rfl
   ·exact hv
  cases er:rd dec cs f (pl+1) 0 with
  | none=>
   rw [er] at hr
   replace hr:v= .non:=hr
   subst hr
   refine ⟨.ret .non,⟨dd,t.putT 5 .non⟩,s1,?_,x1,rfl⟩
   apply Zj (q:=false)
   ·apply t_cmp
    ·walk_at "am_ev"
    ·walk_at "am_ev"
    ·rw [eq_str];simp [c1]
   ·apply Zj (q:=true)
    ·apply t_cmp
     ·walk_at "am_ev"
     ·walk_at "am_ev"
     ·rw [eq_str];simp [c2]
    ·apply Xq
     ·exact call
     apply Zj (q:=true)
     ·apply t_or_true
      apply t_cmp
      ·walk_at "am_ev"
      ·walk_at "am_ev"
      ·rfl
     ·apply e_ret;walk_at "am_ev"
     ·walk_at "am_leave"
    ·walk_at "am_leave"
   ·walk_at "am_leave"
  | some tq=>
   obtain ⟨t2,q2⟩:=tq
   rw [er] at hr
   (refine oEAAA hr fun tv q1z rep l1 l2=> ?_;clear hr;subst q1z)
   dsimp only
   have i0:∀ s,getI (.tup [tv,.int (.ofNat q2)]) (.int (.ofNat 0)) s=some tv:=fun s=>Yz (by simp) rfl
   have i1:∀ s,getI (.tup [tv,.int (.ofNat q2)]) (.int (.ofNat 1)) s=some (.int (.ofNat q2)):=fun s=>Yz (by simp) rfl
   have i0':=i0 s1
   have i1':=i1 s1
   have isn:cmpV .Is (.tup [tv,.int (.ofNat q2)]) .non s1=some false:=rfl
   by_cases hq:cs[q2]? =some 41
   ·rw [if_pos hq]
    have hq2:q2 < cs.length:=(Wn hq).1
    have q3:getI (.ref m) (.int (.ofNat q2)) s1=some (.str [41]):=Xh K1.r (by rw [Zn];lia) (Vh hq)
    let s2:St:=⟨s1.h.putT s1.nx (.list [.str [40],tv,.str [41]]),s1.nx+1⟩
    have i1'':=i1 s2
    refine ⟨.next,⟨dd,((t.putT 5 (.tup [tv,.int (.ofNat q2)])).putT 4 (.ref s1.nx)).putT 2 (.int (.ofNat (q2+1)))⟩,s2,?_,x1.trans (Ext.push s1 _),rfl,_,.ref s1.nx,rfl,⟨gg rfl (gg rfl (gg rfl g0)),gg rfl (gg rfl (gg rfl g1)),Zy,gg rfl (gg rfl (gg rfl g3))⟩,gg rfl Zy,?_,by lia,hq2⟩
    ·unfold opStmt b_lr
     dsimp only
     apply e_ife (q:=false)
     ·apply t_cmp
      ·walk_at "am_ev"
      ·walk_at "am_ev"
      ·rw [eq_str];simp [c1]
     ·apply e_ife (q:=true)
      ·apply t_cmp
       ·walk_at "am_ev"
       ·walk_at "am_ev"
       ·rw [eq_str];simp [c2]
      ·apply Xq
       ·exact call
       apply e_ife (q:=false)
       ·apply Vj
        ·apply t_cmp
         ·walk_at "am_ev"
         ·walk_at "am_ev"
         ·exact isn
        ·apply Yf
         ·apply t_cmp
          ·walk_at "am_ev"
          ·apply x_len
           ·walk_at "am_ev"
           ·exact K1.r
           ·exact hsm
          ·rw [ge_int,Zn,Wk];lia
         ·apply Yf
          ·apply t_cmp
           ·walk_at "am_ev"
           ·walk_at "am_ev"
           ·rfl
          ·exact allT_or_nil
       ·exact e_nil
       apply Xq
       ·apply x_lst
        ·rfl
        ·walk_at "am_evs"
       apply Xq
       ·walk_at "am_ev"
       exact e_nil
      ·exact e_nil
     ·exact e_nil
    ·exact .node Zg (Wz _) (.cons (.leaf 40) (.cons (rep.mono (Ext.push s1 _)) (.cons (.leaf 41) .nil)))
   ·rw [if_neg hq]
    refine ⟨.ret .non,⟨dd,t.putT 5 (.tup [tv,.int (.ofNat q2)])⟩,s1,?_,x1,rfl⟩
    apply Zj (q:=false)
    ·apply t_cmp
     ·walk_at "am_ev"
     ·walk_at "am_ev"
     ·rw [eq_str];simp [c1]
    ·apply Zj (q:=true)
     ·apply t_cmp
      ·walk_at "am_ev"
      ·walk_at "am_ev"
      ·rw [eq_str];simp [c2]
     ·apply Xq
      ·exact call
      apply Zj (q:=true)
      ·apply Vj
       ·apply t_cmp
        ·walk_at "am_ev"
        ·walk_at "am_ev"
        ·exact isn
       ·by_cases hge:cs.length≤q2
        ·apply Uw
         apply t_cmp
         ·walk_at "am_ev"
         ·apply x_len
          ·walk_at "am_ev"
          ·exact K1.r
          ·exact hsm
         ·rw [ge_int,Zn,Wj];lia
        ·obtain ⟨c',hc'⟩:∃ c,cs[q2]? =some c:=⟨_,Qu (by lia)⟩
         have q3:getI (.ref m) (.int (.ofNat q2)) s1=some (.str [c']):=Xh K1.r (by rw [Zn];lia) (Vh hc')
         have hne:c'≠41:=fun h=>hq (by rw [hc',h])
         apply Yf
         ·apply t_cmp
          ·walk_at "am_ev"
          ·apply x_len
           ·walk_at "am_ev"
           ·exact K1.r
           ·exact hsm
          ·rw [ge_int,Zn,Wk];lia
         ·apply Uw
          apply t_cmp
          ·walk_at "am_ev"
          ·walk_at "am_ev"
          ·refine (?_:(match some (beqS [c'] [41]) with | some r=>some (!r) | none=>none)=some true)
           rw [beqS_eq'];simp [hne]
      ·apply e_ret;walk_at "am_ev"
      ·walk_at "am_leave"
     ·walk_at "am_leave"
    ·walk_at "am_leave"
 rw [if_neg c2]
 by_cases c3:c=109
 ·rw [if_pos c3]
  refine oEEAA (B (pl+1) 85 s (M+15) ⟨dd,t⟩ (.inr (.inl rfl)) (Wz _) hpl K (by lia) rfl) fun v s1 hv x1 hr=> ?_
  have K1:=K.mono x1
  have call:∀ {p1 p2 p3 p4 p5 p6 p7 p8:Pos},(EV (M+16)).ev (.calG 87 p1 [.loc 0 p2,.loc 1 p3,.bin (.loc 2 p4) .Add (.num 1 p5) p6,.str 19 p7] p8) ⟨dd,t⟩ s=some (v,s1):=by
   intros
   apply x_call
   ·rfl
   ·walk_at "am_evs"
   ·rfl
   ·rfl
   ·exact hv
  cases er:rd dec cs f (pl+1) 85 with
  | none=>
   rw [er] at hr
   replace hr:v= .non:=hr
   subst hr
   refine ⟨.ret .non,⟨dd,t.putT 5 .non⟩,s1,?_,x1,rfl⟩
   apply Zj (q:=false)
   ·apply t_cmp
    ·walk_at "am_ev"
    ·walk_at "am_ev"
    ·rw [eq_str];simp [c1]
   ·apply Zj (q:=false)
    ·apply t_cmp
     ·walk_at "am_ev"
     ·walk_at "am_ev"
     ·rw [eq_str];simp [c2]
    ·apply Zj (q:=true)
     ·apply t_cmp
      ·walk_at "am_ev"
      ·walk_at "am_ev"
      ·rw [eq_str];simp [c3]
     ·apply Xq
      ·exact call
      apply Zj (q:=true)
      ·apply t_cmp
       ·walk_at "am_ev"
       ·walk_at "am_ev"
       ·rfl
      ·apply e_ret;walk_at "am_ev"
      ·walk_at "am_leave"
     ·walk_at "am_leave"
    ·walk_at "am_leave"
   ·walk_at "am_leave"
  | some tq=>
   obtain ⟨t2,q2⟩:=tq
   rw [er] at hr
   (refine oEAAA hr fun tv q1z rep l1 l2=> ?_;clear hr;subst q1z)
   have i0:∀ s,getI (.tup [tv,.int (.ofNat q2)]) (.int (.ofNat 0)) s=some tv:=fun s=>Yz (by simp) rfl
   have i1:∀ s,getI (.tup [tv,.int (.ofNat q2)]) (.int (.ofNat 1)) s=some (.int (.ofNat q2)):=fun s=>Yz (by simp) rfl
   have i0':=i0 s1
   have isn:cmpV .Is (.tup [tv,.int (.ofNat q2)]) .non s1=some false:=rfl
   let s2:St:=⟨s1.h.putT s1.nx (.list [.str [109],tv]),s1.nx+1⟩
   have i1'':=i1 s2
   refine ⟨.next,⟨dd,((t.putT 5 (.tup [tv,.int (.ofNat q2)])).putT 4 (.ref s1.nx)).putT 2 (.int (.ofNat q2))⟩,s2,?_,x1.trans (Ext.push s1 _),rfl,_,.ref s1.nx,rfl,⟨gg rfl (gg rfl (gg rfl g0)),gg rfl (gg rfl (gg rfl g1)),Zy,gg rfl (gg rfl (gg rfl g3))⟩,gg rfl Zy,?_,by lia,l2⟩
   ·skip
    apply e_ife (q:=false)
    ·apply t_cmp
     ·walk_at "am_ev"
     ·walk_at "am_ev"
     ·rw [eq_str];simp [c1]
    ·apply e_ife (q:=false)
     ·apply t_cmp
      ·walk_at "am_ev"
      ·walk_at "am_ev"
      ·rw [eq_str];simp [c2]
     ·apply e_ife (q:=true)
      ·apply t_cmp
       ·walk_at "am_ev"
       ·walk_at "am_ev"
       ·rw [eq_str];simp [c3]
      ·apply Xq
       ·exact call
       apply e_ife (q:=false)
       ·apply t_cmp
        ·walk_at "am_ev"
        ·walk_at "am_ev"
        ·exact isn
       ·exact e_nil
       apply Xq
       ·apply x_lst
        ·rfl
        ·walk_at "am_evs"
       apply Xq
       ·walk_at "am_ev"
       exact e_nil
      ·exact e_nil
     ·exact e_nil
    ·exact e_nil
   ·exact .node Zg (Wz _) (.cons (.leaf 109) (.cons (rep.mono (Ext.push s1 _)) .nil))
 rw [if_neg c3]
 refine ⟨.ret .non,⟨dd,t⟩,s,?_,Ext.refl s,rfl⟩
 apply Zj (q:=false)
 ·apply t_cmp
  ·walk_at "am_ev"
  ·walk_at "am_ev"
  ·rw [eq_str];simp [c1]
 ·apply Zj (q:=false)
  ·apply t_cmp
   ·walk_at "am_ev"
   ·walk_at "am_ev"
   ·rw [eq_str];simp [c2]
  ·apply Zj (q:=false)
   ·apply t_cmp
    ·walk_at "am_ev"
    ·walk_at "am_ev"
    ·rw [eq_str];simp [c3]
   ·apply e_ret;walk_at "am_ev"
   ·walk_at "am_leave"
  ·walk_at "am_leave"
 ·walk_at "am_leave"
section
variable {n f:Nat} {l l1:Lo} {s s1 s2:St} {t:CE} {b:List CS} {r:Option (Fl × Lo × St)}
theorem w_done (h1:(EV (n+1)).tst t l s=some (false,s1)):whlLoop (EV (n+1)) t b [] (f+1) l s=some (.next,l,s1):=by
 exact gY h1 e_nil
theorem w_next (h1:(EV n).tst t l s=some (true,s1)) (h2:(EV n).exs b l s1=some (.next,l1,s2)) (h3:whlLoop (EV n) t b [] f l1 s2=r):whlLoop (EV n) t b [] (f+1) l s=r:=by
 exact gX h1 (gF h2 h3)
theorem w_brk (h1:(EV n).tst t l s=some (true,s1)) (h2:(EV n).exs b l s1=some (.brk,l1,s2)):whlLoop (EV n) t b [] (f+1) l s=some (.next,l1,s2):=by
 exact gX h1 (gF h2 rfl)
theorem w_ret {v:AV} (h1:(EV n).tst t l s=some (true,s1)) (h2:(EV n).exs b l s1=some (.ret v,l1,s2)):whlLoop (EV n) t b [] (f+1) l s=some (.ret v,l1,s2):=by
 exact gX h1 (gF h2 rfl)
end
noncomputable def rdTst:CE:=match b_lr with
 | _::_:: .whl t _ _ _::_=>t
 | _=> .non ⟨0,0,0,0⟩
noncomputable def rdBody:List CS:=match b_lr with
 | _::_:: .whl _ b _ _::_=>b
 | _=>[]
noncomputable def rdSet:CE:=match rdBody with
 | .asgN _ _ e _::_=>e
 | _=> .non ⟨0,0,0,0⟩
theorem pn_pos {c:Nat} (h:c≠0):pn c=[c]:=if_neg h
theorem lp_ok {dec:Nat→Nat→Nat} {cs:List Nat} {wr ep m:Nat} {es:List (AV × AV)} {f M dd pl p:Nat} (hl:cs.length≤100) (hp:p=0∨p=85∨p=97∨p=98) (SO:SetOk dec wr ep es) (B:Below dec cs wr ep m es f M (dd+1) pl):
  ∀ (g F:Nat) (q:Nat) (tt:T) (t:Tr AV) (tv:AV) (s:St),cs.length < q+g→g≤F→RK wr ep m es cs s→LI wr m p (dd+1) t q→(Lo.mk (dd+1) t).get 4=some tv→RepT s tv tt→pl < q→q≤cs.length→
  ∃ fl l' s',whlLoop (EV (M+19)) rdTst rdBody [] F ⟨dd+1,t⟩ s=some (fl,l',s')∧Ext s s'∧LpR cs wr m p (dd+1) pl s' fl l' (lp dec cs (rd dec cs f) p g tt q)
 | 0,F,q,tt,t,tv,s,h,_,_,_,_,_,_,hq=>by lia
 | g+1,0,q,tt,t,tv,s,h,hF,_,_,_,_,_,_=>by lia
 | g+1,F+1,q,tt,t,tv,s,h,hF,K,I,h4,rep,hlt,hq=>by
  obtain ⟨g0,g1,g2,g3⟩:=I
  have hsm:small (strs1 cs)=true:=Yx (by rw [Zn];lia)
  rw [lp_s]
  cases e:cs[q]? with
  | none=>
   refine ⟨.next,⟨dd+1,t⟩,s,?_,Ext.refl s,.mk ⟨g0,g1,g2,g3⟩ h4 rep hlt hq⟩
   have:cs.length≤q:=by rw [List.getElem?_eq_none_iff] at e;exact e
   apply w_done
   apply t_and2 (x:=false) (y:=false)
   ·apply t_cmp
    ·walk_at "am_ev"
    ·apply x_len
     ·walk_at "am_ev"
     ·exact K.r
     ·exact hsm
    ·rw [lt_int,Zn,Wk];lia
   ·intro h;exact fat h
   ·intro _;exact ⟨rfl,rfl⟩
  | some c=>
   dsimp only
   have hq1:q < cs.length:=(Wn e).1
   let s1:St:=⟨s.h.putT s.nx (.list (strs1 [97,98])),s.nx+1⟩
   have x1:Ext s s1:=Ext.push s _
   have K1:=K.mono x1
   have q0:getI (.ref m) (.int (.ofNat q)) s=some (.str [c]):=Xh K.r (by rw [Zn];lia) (Vh e)
   have q1:getI (.ref m) (.int (.ofNat q)) s1=some (.str [c]):=Xh K1.r (by rw [Zn];lia) (Vh e)
   have test:∀ b,decide (c∈[97,98])=b→(EV (M+19)).tst rdTst ⟨dd+1,t⟩ s=some (b,s1):=by
    intro b hb
    subst hb
    have:decide (c∈[97,98])=(true && decide (c∈[97,98])):=by simp
    rw [this]
    unfold rdTst b_lr
    dsimp only
    apply t_and2
    ·apply t_cmp
     ·walk_at "am_ev"
     ·apply x_len
      ·walk_at "am_ev"
      ·exact K.r
      ·exact hsm
     ·rw [lt_int,Zn,Wj];lia
    ·intro _
     apply t_cmp
     ·walk_at "am_ev"
     ·apply x_lst
      ·rfl
      ·walk_at "am_evs"
     ·exact in_list (Zg (t:=s.h) (i:=s.nx)) (memK_strs c [97,98])
    ·intro h;exact taf h
   by_cases hc:c=97∨c=98
   ·rw [if_pos hc]
    have hc0:c≠0:=by lia
    have tt1:=test true (by simpa using hc)
    have set0:=fun (n d:Nat) (l:Lo)=>SO (n:=n) (d:=d) (l:=l) p c hp hc K1.w
    have asg:(EV (M+18)).ev rdSet ⟨dd+1,t⟩ s1=some (.str (txt (dec p c)),s1):=by
     apply x_call
     ·rfl
     ·walk_at "am_evs"
     ·rfl
     ·rfl
     ·exact set0 (M+9) dd ⟨dd+1,t⟩ rfl
    have gq:∀ {w:AV},getI (.ref m) (.int (.ofNat q)) s1=some (.str [c]):=q1
    by_cases d0:dec p c=0
    ·rw [if_pos d0]
     have tx:txt (dec p c)=sGo:=by rw [d0];rfl
     rw [tx] at asg
     refine oEEAA (B (q+1) c s1 (M+17) ⟨dd+1,t.putT 6 (.str sGo)⟩ (by lia) (by lia) hq1 K1 (by lia) rfl) fun v s2 hv x2 hr=> ?_
     rw [pn_pos hc0] at hv
     have K2:=K1.mono x2
     have e1:(Int.ofNat q+Int.ofNat 1:Int)=Int.ofNat (q+1):=rfl
     have start:∀ R,((EV (M+19)).exs (rdBody.drop 4) ⟨dd+1,(t.putT 6 (.str sGo)).putT 7 v⟩ s2=R)→(EV (M+19)).exs rdBody ⟨dd+1,t⟩ s1=R:=by
      intro R hR
      apply Xq
      ·exact asg
      apply e_ife (q:=false)
      ·apply t_cmp
       ·walk_at "am_ev"
       ·walk_at "am_ev"
       ·rw [eq_str];rfl
      ·exact e_nil
      apply e_ife (q:=false)
      ·apply t_cmp
       ·walk_at "am_ev"
       ·walk_at "am_ev"
       ·rw [eq_str];rfl
      ·exact e_nil
      apply Xq
      ·apply x_call
       ·rfl
       ·walk_at "am_evs"
       ·rfl
       ·rfl
       ·exact hv
      exact hR
     cases er:rd dec cs f (q+1) c with
     | none=>
      rw [er] at hr
      replace hr:v= .non:=hr
      subst hr
      refine ⟨.ret .non,⟨dd+1,(t.putT 6 (.str sGo)).putT 7 .non⟩,s2,w_ret tt1 (start _ ?_),x1.trans x2,rfl⟩
      apply Zj (q:=true)
      ·apply t_cmp
       ·walk_at "am_ev"
       ·walk_at "am_ev"
       ·rfl
      ·apply e_ret;walk_at "am_ev"
      ·walk_at "am_leave"
     | some rq=>
      obtain ⟨r,q2⟩:=rq
      rw [er] at hr
      (refine oEAAA hr fun rv q1z rrep l1 l2=> ?_;clear hr;subst q1z)
      have i0:∀ s,getI (.tup [rv,.int (.ofNat q2)]) (.int (.ofNat 0)) s=some rv:=fun s=>Yz (by simp) rfl
      have i1:∀ s,getI (.tup [rv,.int (.ofNat q2)]) (.int (.ofNat 1)) s=some (.int (.ofNat q2)):=fun s=>Yz (by simp) rfl
      let s3:St:=⟨s2.h.putT s2.nx (.list [tv,.str [c],rv]),s2.nx+1⟩
      have x3:Ext s2 s3:=Ext.push s2 _
      have i0':=i0 s2
      have i1':=i1 s3
      have q2':getI (.ref m) (.int (.ofNat q)) s2=some (.str [c]):=Xh K2.r (by rw [Zn];lia) (Vh e)
      let t2:Tr AV:=(((t.putT 6 (.str sGo)).putT 7 (.tup [rv,.int (.ofNat q2)])).putT 4 (.ref s2.nx)).putT 2 (.int (.ofNat q2))
      have I2:LI wr m p (dd+1) t2 q2:=⟨gg rfl (gg rfl (gg rfl (gg rfl g0))),gg rfl (gg rfl (gg rfl (gg rfl g1))),Zy,gg rfl (gg rfl (gg rfl (gg rfl g3)))⟩
      have rep2:RepT s3 (.ref s2.nx) (.node [tt,.leaf c,r]):= .node Zg (Wz _) (.cons ((rep.mono (x1.trans x2)).mono x3) (.cons (.leaf c) (.cons (rrep.mono x3) .nil)))
      refine oEEEAA (lp_ok hl hp SO B g F q2 (.node [tt,.leaf c,r]) t2 (.ref s2.nx) s3 (by lia) (by lia) (K2.mono x3) I2 (gg rfl Zy) rep2 (by lia) l2) fun fl l' s4 hw x4 hm=> ?_
      refine ⟨fl,l',s4,w_next tt1 (start _ ?_) hw,((x1.trans x2).trans x3).trans x4,hm⟩
      apply e_ife (q:=false)
      ·apply t_cmp
       ·walk_at "am_ev"
       ·walk_at "am_ev"
       ·rfl
      ·exact e_nil
      apply Xq
      ·apply x_lst
       ·rfl
       ·walk_at "am_evs"
      apply Xq
      ·walk_at "am_ev"
      exact e_nil
    ·rw [if_neg d0]
     by_cases d1:dec p c=1
     ·rw [if_pos d1]
      have tx:txt (dec p c)=sBack:=by rw [d1];rfl
      rw [tx] at asg
      refine ⟨.next,⟨dd+1,t.putT 6 (.str sBack)⟩,s1,w_brk tt1 ?_,x1,.mk ⟨gg rfl g0,gg rfl g1,gg rfl g2,gg rfl g3⟩ (gg rfl h4) (rep.mono x1) hlt hq⟩
      unfold rdBody b_lr
      dsimp only
      apply Xq
      ·exact asg
      apply e_ife (q:=false)
      ·apply t_cmp
       ·walk_at "am_ev"
       ·walk_at "am_ev"
       ·rw [eq_str];rfl
      ·exact e_nil
      apply Zj (q:=true)
      ·apply t_cmp
       ·walk_at "am_ev"
       ·walk_at "am_ev"
       ·rw [eq_str];rfl
      ·exact e_brk
      ·walk_at "am_leave"
     ·rw [if_neg d1]
      have tx:txt (dec p c)=sRef:=by unfold txt;rw [if_neg d0,if_neg d1]
      rw [tx] at asg
      refine ⟨.ret .non,⟨dd+1,t.putT 6 (.str sRef)⟩,s1,w_ret tt1 ?_,x1,rfl⟩
      unfold rdBody b_lr
      dsimp only
      apply Xq
      ·exact asg
      apply Zj (q:=true)
      ·apply t_cmp
       ·walk_at "am_ev"
       ·walk_at "am_ev"
       ·rw [eq_str];rfl
      ·apply e_ret;walk_at "am_ev"
      ·walk_at "am_leave"
   ·rw [if_neg hc]
    refine ⟨.next,⟨dd+1,t⟩,s1,w_done (test false (by simpa using hc)),x1,.mk ⟨g0,g1,g2,g3⟩ h4 (rep.mono x1) hlt hq⟩
theorem read_ok {dec:Nat→Nat→Nat} {cs:List Nat} {wr ep m:Nat} {es:List (AV × AV)} (hl:cs.length≤100) (SO:SetOk dec wr ep es):∀ (f pl p:Nat),p=0∨p=85∨p=97∨p=98→pl≤cs.length→cs.length < pl+f→∀ (N d:Nat) (l:Lo) (s:St),20 * f≤N→l.dep=f+d+2→RK wr ep m es cs s→
  ∃ v s',callFn P1 (EV N) 87 [.ref wr,.ref m,.int (.ofNat pl),.str (pn p)] l s=some (v,s')∧Ext s s'∧RdR cs pl s' v (rd dec cs f pl p)
 | 0,pl,p,_,h1,h2,_,_,_,_,_,_,_=>by lia
 | f+1,pl,p,hp,h1,h2,N,d,l,s,hN,hd,K=>by
  obtain ⟨M,rfl⟩:∃ M,N=M+20:=⟨N - 20,by lia⟩
  have hsm:small (strs1 cs)=true:=Yx (by rw [Zn];lia)
  let t0:Tr AV:=(((Tr.nil.putT 0 (.ref wr)).putT 1 (.ref m)).putT 2 (.int (.ofNat pl))).putT 3 (.str (pn p))
  have I:LI wr m p (f+d+2) t0 pl:=⟨gg rfl (gg rfl (gg rfl Zy)),gg rfl (gg rfl Zy),gg rfl Zy,Zy⟩
  obtain ⟨g0,g1,g2,g3⟩:=id I
  have fin:∀ v s',(∃ l',(EV (M+20)).exs b_lr ⟨f+d+2,t0⟩ s=some (.ret v,l',s'))→callFn P1 (EV (M+20)) 87 [.ref wr,.ref m,.int (.ofNat pl),.str (pn p)] l s=some (v,s'):=fun v s' h=>
   c_fn fn_read rfl rfl (d:=f+d+2) (by lia) (by rw [Xz,Xz,Xz,Xz,Yn]) h
  by_cases hpl:pl < cs.length
  ·have B:Below dec cs wr ep m es f M (f+d+2) pl:=fun pl' p' s' N' l' a1 a2 a3 a4 a5 a6=>read_ok hl SO f pl' p' a1 a3 (by lia) N' d l' s' (by lia) a6 a4
   have first:∀ R,(EV (M+20)).exs (opStmt++b_lr.drop 2) ⟨f+d+2,t0⟩ s=R→(EV (M+20)).exs b_lr ⟨f+d+2,t0⟩ s=R:=by
    intro R hR
    apply e_ife (q:=false)
    ·apply t_cmp
     ·walk_at "am_ev"
     ·apply x_len
      ·walk_at "am_ev"
      ·exact K.r
      ·exact hsm
     ·rw [ge_int,Zn,Wk];lia
    ·exact e_nil
    exact hR
   refine oEEEAA (op_ok hl B K I hpl) fun fl l' s1 ho x1 hm=> ?_
   rw [rd_s]
   cases eo:operand cs (rd dec cs f) pl with
   | none=>
    rw [eo] at hm
    replace hm:fl= .ret .non:=hm
    subst hm
    refine ⟨.non,s1,fin _ _ ⟨l',first _ ?_⟩,x1,rfl⟩
    obtain ⟨c0,hc0⟩:∃ c0,opStmt=[c0]:=⟨_,rfl⟩
    rw [hc0] at ho ⊢
    exact e_one_ret ho
   | some tq=>
    obtain ⟨tt,q⟩:=tq
    rw [eo] at hm
    (refine oAEEAAAAA hm fun q0z t1 tv q3z I1 h4 rep l1 l2=> ?_;clear hm;subst q0z q3z)
    refine oEEEAA (lp_ok hl hp SO (dd:=f+d+1) B (cs.length+1) 200 q tt t1 tv s1 (by lia) (by lia) (K.mono x1) I1 h4 rep l1 l2) fun fl2 l2' s2 hw x2 hm2=> ?_
    have go:∀ R,(EV (M+20)).exs (b_lr.drop 2) ⟨f+d+2,t1⟩ s1=R→(EV (M+20)).exs b_lr ⟨f+d+2,t0⟩ s=R:=by
     intro R hR
     refine first _ ?_
     obtain ⟨c0,hc0⟩:∃ c0,opStmt=[c0]:=⟨_,rfl⟩
     rw [hc0] at ho ⊢
     exact e_one_next ho hR
    dsimp only
    cases el:lp dec cs (rd dec cs f) p (cs.length+1) tt q with
    | none=>
     rw [el] at hm2
     replace hm2:fl2= .ret .non:=hm2
     subst hm2
     refine ⟨.non,s2,fin _ _ ⟨l2',go _ ?_⟩,x1.trans x2,rfl⟩
     have hx:exStep P1 theN (EV (M+19)) (.whl rdTst rdBody [] ⟨720,4,730,24⟩) ⟨f+d+2,t1⟩ s1=some (.ret .non,l2',s2):=by delta exStep;dsimp only;exact hw
     refine (?_:(EV (M+20)).exs (.whl rdTst rdBody [] ⟨720,4,730,24⟩::_) _ _=_)
     exact gF hx rfl
    | some rq=>
     obtain ⟨tt',q'⟩:=rq
     rw [el] at hm2
     (refine oAEEAAAAA hm2 fun q0z t2 tv2 q3z I2 h42 rep2 k1 k2=> ?_;clear hm2;subst q0z q3z)
     have g2':=I2.g2
     refine ⟨.tup [tv2,.int (.ofNat q')],s2,fin _ _ ⟨⟨f+d+2,t2⟩,go _ ?_⟩,x1.trans x2,tv2,rfl,rep2,k1,k2⟩
     have hx:exStep P1 theN (EV (M+19)) (.whl rdTst rdBody [] ⟨720,4,730,24⟩) ⟨f+d+2,t1⟩ s1=some (.next,⟨f+d+2,t2⟩,s2):=by delta exStep;exact hw
     apply e_cons hx
     apply e_ret
     apply x_tup
     ·rfl
     ·walk_at "am_evs"
  ·have e:cs[pl]? =none:=by rw [List.getElem?_eq_none_iff];lia
   have er:rd dec cs (f+1) pl p=none:=by
    rw [rd_s]
    have:operand cs (rd dec cs f) pl=none:=by unfold operand;rw [e]
    rw [this]
   rw [er]
   refine ⟨.non,s,fin _ _ ?_,Ext.refl s,rfl⟩
   apply Exists.intro
   apply Zj (q:=true)
   ·apply t_cmp
    ·walk_at "am_ev"
    ·apply x_len
     ·walk_at "am_ev"
     ·exact K.r
     ·exact hsm
    ·rw [ge_int,Zn,Wj];lia
   ·apply e_ret;walk_at "am_ev"
   ·walk_at "am_leave"
mutual
inductive RepY (a b:Nat) (s:St):AV→T→Prop
 | leaf (c:Nat):RepY a b s (.str [c]) (.leaf c)
 | node {r:Nat} {vs:List AV} {ts:List T} (h:s.h.get r=some (.list vs)) (hr:r < s.nx) (h1:r≠a) (h2:r≠b) (hv:RepYs a b s vs ts):RepY a b s (.ref r) (.node ts)
inductive RepYs (a b:Nat) (s:St):List AV→List T→Prop
 | nil:RepYs a b s [] []
 | cons {v:AV} {t:T} {vs:List AV} {ts:List T} (h:RepY a b s v t) (r:RepYs a b s vs ts):RepYs a b s (v::vs) (t::ts)
end
theorem RepYs.mono {a b a' b':Nat} {s s':St} (e:∀ r,r < s.nx→r≠a→r≠b→s'.h.get r=s.h.get r∧r≠a'∧r≠b') (hn:s.nx≤s'.nx) {vs:List AV} {ts:List T} (h:RepYs a b s vs ts):RepYs a' b' s' vs ts:=
 RepYs.rec (motive_1:=fun v t uu=>RepY a' b' s' v t) (motive_2:=fun vs ts uu=>RepYs a' b' s' vs ts) .leaf (fun h hr h1 h2 uu i=> .node ((e _ hr h1 h2).1.trans h) (Wx hr hn) (e _ hr h1 h2).2.1 (e _ hr h1 h2).2.2 i) .nil (fun uu uu a b=> .cons a b) h
theorem RepY.rep {a b:Nat} {s:St} {v:AV} {t:T} (h:RepY a b s v t):RepT s v t:=
 RepY.rec (motive_1:=fun v t uu=>RepT s v t) (motive_2:=fun vs ts uu=>Reps s vs ts) .leaf (fun h hr uu uu uu i=> .node h hr i) .nil (fun uu uu a b=> .cons a b) h
theorem RepYs.len {a b:Nat} {s:St} {vs:List AV} {ts:List T} (h:RepYs a b s vs ts):vs.length=ts.length:=by
 induction ts generalizing vs with
 | nil=>cases h;rfl
 | cons t ts ih=>cases h with | cons h r=>simp [ih r]
theorem RepYs.append {a b:Nat} {s:St} {vs us:List AV} {ts rs:List T} (h:RepYs a b s vs ts) (k:RepYs a b s us rs):RepYs a b s (vs++us) (ts++rs):=by
 induction ts generalizing vs with
 | nil=>cases h;exact k
 | cons t ts ih=>cases h with | cons h r=>exact .cons h (ih r)
theorem RepYs.take {a b:Nat} {s:St} {vs:List AV} {ts:List T} (h:RepYs a b s vs ts) (n:Nat):RepYs a b s (vs.take n) (ts.take n):=by
 induction n generalizing vs ts with
 | zero=>simpa using RepYs.nil
 | succ n ih=>cases h with
  | nil=>simpa using RepYs.nil
  | cons h r=>simpa using RepYs.cons h (ih r)
theorem RepYs.drop {a b:Nat} {s:St} {vs:List AV} {ts:List T} (h:RepYs a b s vs ts) (n:Nat):RepYs a b s (vs.drop n) (ts.drop n):=by
 induction n generalizing vs ts with
 | zero=>simpa using h
 | succ n ih=>cases h with
  | nil=>simpa using RepYs.nil
  | cons h r=>simpa using ih r
noncomputable def edges:List (Nat × Nat):=[(0,2),(0,3),(0,4),(0,1),(2,2),(2,3),(2,4),(2,7),(3,2),(3,3),(3,4),(3,8),(5,2),(5,3),(5,4),(5,9),(6,2),(6,3),(6,4),(6,10),(1,5),(1,6),(7,5),(7,6),(8,5),(8,6),(8,11),(9,5),(9,6),(10,5),(10,6)]
noncomputable def edge (a b:Nat):Bool:=edges.any fun p=>Nat.beq p.1 a && Nat.beq p.2 b
theorem edge_dec {Q:Nat→Nat→Prop} [∀ a b,Decidable (Q a b)] (h:(edges.all fun p=>decide (Q p.1 p.2))=true) {a b:Nat} (e:edge a b=true):Q a b:=by
 refine oEA (List.any_eq_true.mp e) fun p hp q=> ?_
 refine oA (Bool.and_eq_true_iff.mp q) fun q1 q2=> ?_
 have:=Qd (Zz h p hp)
 rwa [Qy q1,Qy q2] at this
noncomputable def Path:List (Nat × T)→Prop
 | []=>True
 | x::r=>edge (top r) x.1=true∧Path r
theorem edge_lt {a b:Nat} (h:edge a b=true):a < 12∧b < 12:=edge_dec (Q:=fun a b=>a < 12∧b < 12) (by decide+kernel) h
theorem path_top {stk:List (Nat × T)} (h:Path stk):top stk < 12:=by
 cases stk with
 | nil=>decide
 | cons x r=>exact (edge_lt h.1).2
noncomputable def sgn (la:Option Nat):List Nat:=match la with
 | none=>[36,101,110,100]
 | some c=>[c]
noncomputable def ActV (a:Act) (v:AV):Prop:=match a with
 | .err=>v= .non
 | .acc=>v= .int (.ofNat 0)
 | .shift j=>v= .int (.ofNat j)∧0 < j
 | .red r=>v= .int (-(Int.ofNat r))∧0 < r
structure TK (dec:Nat→Nat→Nat) (gr tb:Nat) (s:St):Prop where
 act:∃ lr,getA P1 (.ref tb) 47 s=some (.ref lr)∧∀ st la,st < 12→(la=none∨∃ c,la=some c∧isSign c)→∃ ar ae aep v,getI (.ref lr) (.int (.ofNat st)) s=some (.ref ar)∧s.h.get ar=some (.dict ae aep)∧(find (.str (sgn la)) ae=some (some v)∨(find (.str (sgn la)) ae=some none∧v= .non))∧ActV (act dec st la) v
 goto:∃ lg,getA P1 (.ref tb) 48 s=some (.ref lg)∧∀ st,st=0∨st=2∨st=3∨st=5∨st=6→∃ ar,getI (.ref lg) (.int (.ofNat st)) s=some (.ref ar)∧getI (.ref ar) (.str [69]) s=some (.int (.ofNat (goTo st)))
 rule:∃ pr,getA P1 (.ref gr) 24 s=some (.ref pr)∧∀ r,0 < r→r < 6→∃ rr xs,getI (.ref pr) (.int (.ofNat r)) s=some (.ref rr)∧getA P1 (.ref rr) 1 s=some (.tup xs)∧xs.length=rlen r∧∀ s',Ext s s'→getA P1 (.ref rr) 0 s'=some (.str [69])
theorem edge_of4 {a b:Nat} (h:edge a b=true) (hb:b=2∨b=3∨b=4∨b=1∨b=7∨b=8∨b=9∨b=10):a=0∨a=2∨a=3∨a=5∨a=6:=
 edge_dec (Q:=fun a b=>(b=2∨b=3∨b=4∨b=1∨b=7∨b=8∨b=9∨b=10)→a=0∨a=2∨a=3∨a=5∨a=6) (by decide+kernel) h hb
theorem edge_spec {a b:Nat} (h:edge a b=true):(b=7→a=2)∧(b=9→a=5)∧(b=10→a=6)∧(b=11→a=8)∧(b=8→a=3)∧(b=1→a=0):=
 edge_dec (Q:=fun a b=>(b=7→a=2)∧(b=9→a=5)∧(b=10→a=6)∧(b=11→a=8)∧(b=8→a=3)∧(b=1→a=0)) (by decide+kernel) h
theorem edge_56 {a b:Nat} (h:edge a b=true) (hb:b=5∨b=6):a=1∨a=7∨a=8∨a=9∨a=10:=
 edge_dec (Q:=fun a b=>(b=5∨b=6)→a=1∨a=7∨a=8∨a=9∨a=10) (by decide+kernel) h hb
noncomputable def redOf:En→Option Nat
 | .go (.red r)=>some r
 | .tie _ _ _ r=>some r
 | _=>none
noncomputable def shOf:En→Option Nat
 | .go (.shift j)=>some j
 | .tie _ _ j _=>some j
 | _=>none
theorem ent_red {dec:Nat→Nat→Nat} {e:En} {r:Nat} (h:entA dec e= .red r):redOf e=some r:=by
 cases e with
 | go a=>have h:a= .red r:=h;rw [h];rfl
 | tie p c j q=>
  have h:byDec dec p c j q= .red r:=h
  walk_at "n zIt h"
  ·cases h
  ·walk_at "n zIt h"
   ·cases h;rfl
   ·cases h
theorem ent_shift {dec:Nat→Nat→Nat} {e:En} {r:Nat} (h:entA dec e= .shift r):shOf e=some r:=by
 cases e with
 | go a=>have h:a= .shift r:=h;rw [h];rfl
 | tie p c j q=>
  have h:byDec dec p c j q= .shift r:=h
  walk_at "n zIt h"
  ·cases h;rfl
  ·walk_at "n zIt h" <;> cases h
theorem red_all:∀ st,st < 12→∀ k,k < 8→(match redOf (pickE (rowT st) k) with | some r=>decide ((st=4∧r=5)∨(st=7∧r=3)∨(st=9∧r=1)∨(st=10∧r=2)∨(st=11∧r=4)) | none=>true)=true:=by decide+kernel
theorem red_state {dec:Nat→Nat→Nat} {st:Nat} {la:Option Nat} {r:Nat} (hlt:st < 12) (ha:act dec st la= .red r):(st=4∧r=5)∨(st=7∧r=3)∨(st=9∧r=1)∨(st=10∧r=2)∨(st=11∧r=4):=by
 have:=red_all st hlt (col la) (col_lt la)
 rw [ent_red ha] at this
 exact Qd this
theorem red_path {dec:Nat→Nat→Nat} {stk:List (Nat × T)} {la:Option Nat} {r:Nat} (h:Path stk) (ha:act dec (top stk) la= .red r):rlen r≤stk.length∧0 < r∧r < 6∧(top (stk.drop (rlen r))=0∨top (stk.drop (rlen r))=2∨top (stk.drop (rlen r))=3∨top (stk.drop (rlen r))=5∨top (stk.drop (rlen r))=6)∧Path (stk.drop (rlen r)):=by
 walk_at "e dec stk la r|h ha"
 have cases':=red_state (path_top h) ha
 cases stk with
 | nil=>rcases cases' with ⟨h,_⟩ | ⟨h,_⟩ | ⟨h,_⟩ | ⟨h,_⟩ | ⟨h,_⟩ <;> cases h
 | cons x r1=>
  refine oA h fun e1 p1=> ?_
  have ht:top (x::r1)=x.1:=rfl
  rw [ht] at cases'
  rcases cases' with ⟨h,rfl⟩ | ⟨h,rfl⟩ | h3
  ·exact ⟨by refine (?_:1≤_);simp,by decide,by decide,edge_of4 e1 (by rw [h];simp),p1⟩
  ·have ne0:top r1=2:=(edge_spec e1).1 h
   cases r1 with
   | nil=>cases ne0
   | cons y r2=>
    refine oA p1 fun e2 p2=> ?_
    have hty:y.1=2:=ne0
    exact ⟨by refine (?_:2≤_);simp,by decide,by decide,edge_of4 e2 (by rw [hty];simp),p2⟩
  ·have hl:rlen r=3∧0 < r∧r < 6:=by rcases h3 with ⟨_,rfl⟩ | ⟨_,rfl⟩ | ⟨_,rfl⟩ <;> decide
   have ne0:top r1=5∨top r1=6∨top r1=8:=by
    refine oAAAA (edge_spec e1) fun uu s2 s3 s4 uu=> ?_
    rcases h3 with ⟨h,_⟩ | ⟨h,_⟩ | ⟨h,_⟩
    ·exact .inl (s2 h)
    ·exact .inr (.inl (s3 h))
    ·exact .inr (.inr (s4 h))
   cases r1 with
   | nil=>rcases ne0 with h | h | h <;> cases h
   | cons y r2=>
    refine oA p1 fun e2 p2=> ?_
    have hty:y.1=5∨y.1=6∨y.1=8:=ne0
    have ne:top r2=1∨top r2=7∨top r2=8∨top r2=9∨top r2=10∨top r2=3:=by
     rcases hty with h | h | h
     ·have:=edge_56 e2 (.inl h);lia
     ·have:=edge_56 e2 (.inr h);lia
     ·have:=(edge_spec e2).2.2.2.2.1 h;lia
    cases r2 with
    | nil=>rcases ne with h | h | h | h | h | h <;> cases h
    | cons z r3=>
     refine oA p2 fun e3 p3=> ?_
     have htz:z.1=1∨z.1=7∨z.1=8∨z.1=9∨z.1=10∨z.1=3:=ne
     rw [hl.1]
     exact ⟨by simp,hl.2.1,hl.2.2,edge_of4 e3 (by lia),p3⟩
theorem red_edge {a:Nat} (h:a=0∨a=2∨a=3∨a=5∨a=6):edge a (goTo a)=true:=by
 rcases h with rfl | rfl | rfl | rfl | rfl <;> decide
theorem shift_all:∀ st,st < 12→∀ k,k < 8→(match shOf (pickE (rowT st) k) with | some j=>edge st j && Nat.blt 0 j | none=>true)=true:=by decide+kernel
theorem shift_edge {dec:Nat→Nat→Nat} {a j:Nat} {la:Option Nat} (hlt:a < 12) (h:act dec a la= .shift j):edge a j=true∧0 < j:=by
 have:=shift_all a hlt (col la) (col_lt la)
 rw [ent_shift h] at this
 refine oA (Bool.and_eq_true_iff.mp this) fun h1 h2=> ?_
 exact ⟨h1,Qh h2⟩
theorem no_shift {dec:Nat→Nat→Nat} {st j:Nat} (hlt:st < 12):act dec st none≠ .shift j:=fun h=>by
 have:=(show ∀ st,st < 12→(shOf (pickE (rowT st) 0)).isNone=true by decide+kernel) st hlt
 rw [ent_shift (show entA dec (pickE (rowT st) 0)=_ from h)] at this
 exact fat this
set_option tactic.hygienic true in
theorem no_acc {dec:Nat→Nat→Nat} {la:Option Nat}:act dec 0 la≠ .acc:=fun h=>by
 have:=(show ∀ k,k < 8→(match pickE (rowT 0) k with | .go .acc=>false | .go _=>true | .tie _ _ _ _=>false)=true by decide+kernel) _ (col_lt la)
 have h:entA dec (pickE (rowT 0) (col la))= .acc:=h
 split at this
 ·exact fat this
 ·rename_i a _ e
  rw [e] at h
  have h:a= .acc:=h
  skip
  contradiction
 ·exact fat this
theorem fn_followed:P1.fn 88=some f_lf:=rfl
noncomputable def fwBody:List CS:=match b_lf with
 | _::_::_:: .forr _ _ b _ _::_=>b
 | _=>[]
noncomputable def stV (stk:List (Nat × T)):List AV:= .int (.ofNat 0)::stk.reverse.map fun x=> .int (.ofNat x.1)
theorem stV_top (stk:List (Nat × T)):∃ ys,stV stk=ys++ [.int (.ofNat (top stk))]:=by
 cases stk with
 | nil=>exact ⟨[],rfl⟩
 | cons x r=>exact ⟨stV r,by simp [stV,top]⟩
theorem stV_len (stk:List (Nat × T)):(stV stk).length=stk.length+1:=by simp [stV]
theorem stV_cons (x:Nat × T) (r:List (Nat × T)):stV (x::r)=stV r++ [.int (.ofNat x.1)]:=by simp [stV]
theorem rev_take {α β:Type} (g:α→β) (l:List α) (k:Nat) (hk:k≤l.length):(l.reverse.map g).take (l.length - k)=(l.drop k).reverse.map g:=by
 rw [←List.map_take,List.take_reverse]
 congr 3
 exact Nat.sub_sub_self hk
theorem rev_drop {α β:Type} (g:α→β) (l:List α) (k:Nat) (hk:k≤l.length):(l.reverse.map g).drop (l.length - k)=(l.take k).reverse.map g:=by
 rw [←List.map_drop,List.drop_reverse]
 congr 3
 exact Nat.sub_sub_self hk
theorem rlen_3 (r:Nat):0 < rlen r∧rlen r≤3:=by
 unfold rlen
 by_cases h:r=5
 ·rw [if_pos h];decide
 ·rw [if_neg h]
  by_cases k:r=3
  ·rw [if_pos k];decide
  ·rw [if_neg k];decide
structure FI (s0:St) (gr tb m:Nat) (cs:List Nat) (stk:List (Nat × T)) (pl dd:Nat) (t:Tr AV) (s:St) (sr tr:Nat) (vs:List AV):Prop where
 g0:(Lo.mk dd t).get 0=some (.ref gr)
 g1:(Lo.mk dd t).get 1=some (.ref tb)
 g2:(Lo.mk dd t).get 2=some (.ref m)
 g3:(Lo.mk dd t).get 3=some (.ref sr)
 g4:(Lo.mk dd t).get 4=some (.ref tr)
 g5:(Lo.mk dd t).get 5=some (.int (.ofNat pl))
 hs:s.h.get sr=some (.list (stV stk))
 ht:s.h.get tr=some (.list vs)
 rep:RepYs sr tr s vs (stk.reverse.map (·.2))
 sr0:s0.nx≤sr
 tr0:s0.nx≤tr
 sr1:sr < s.nx
 tr1:tr < s.nx
 ne:sr≠tr
 le:pl≤cs.length
 len:stk.length≤pl
 path:Path stk
 ext:Ext s0 s
section
variable {n:Nat} {l:Lo} {s s1:St} {p p1:Pos}
theorem x_lent {e:CE} {xs:List AV} (h1:(EV (n+1)).ev e l s=some (.tup xs,s1)) (h3:xs.length≤4000):(EV (n+1+1)).ev (.calG 8 p1 [e] p) l s=some (.int (.ofNat xs.length),s1):=by
 have e:evs (fun e s=>(EV (n+1)).ev e l s) [e] s=some ([.tup xs],s1):=Xj h1 Yw
 rw [calG_eq (show Nat.beq 8 theN.list=false from rfl),e]
 unfold callV
 rw [show P1.glob 8=none from rfl]
 rw [show Nat.beq 8 theN.len=true from rfl]
 unfold lenV
 dsimp only
 rw [Yx h3];dsimp only;rw [Zk,Zd]
end
noncomputable def fwSign:CE:=match fwBody with
 | .asgN _ _ e _::_=>e
 | _=> .non ⟨0,0,0,0⟩
noncomputable def TurnOk (dec:Nat→Nat→Nat) (s0:St) (gr tb m:Nat) (cs:List Nat) (stk:List (Nat × T)) (pl dd:Nat) (R:Option (Fl × Lo × St)):Prop:=match act dec (top stk) cs[pl]? with
 | .err=>∃ l' s',R=some (.ret .non,l',s')∧Ext s0 s'
 | .acc=>∃ l' s' v,R=some (.ret v,l',s')∧Ext s0 s'∧∀ x,stk.head? =some x→RepT s' v x.2
 | .shift j=>∃ c t' s' sr tr vs,cs[pl]? =some c∧R=some (.next,⟨dd,t'⟩,s')∧FI s0 gr tb m cs ((j,.leaf c)::stk) (pl+1) dd t' s' sr tr vs
 | .red r=>∃ t' s' sr tr vs,R=some (.next,⟨dd,t'⟩,s')∧FI s0 gr tb m cs ((goTo (top (stk.drop (rlen r))),.node ((stk.take (rlen r)).reverse.map (·.2)))::stk.drop (rlen r)) pl dd t' s' sr tr vs
theorem turn_ok {dec:Nat→Nat→Nat} {cs:List Nat} {gr tb m M dd pl:Nat} {s0 s:St} {stk:List (Nat × T)} {t:Tr AV} {x:AV} {sr tr:Nat} {vs:List AV} (hl:cs.length≤100) (hsn:∀ c∈cs,isSign c) (hm:s0.h.get m=some (.list (strs1 cs))) (hml:m < s0.nx) (TKe:∀ s',Ext s0 s'→TK dec gr tb s')
  (I:FI s0 gr tb m cs stk pl dd t s sr tr vs) (hne:∀ (la:Option Nat),act dec (top stk) la= .acc→stk≠[]):TurnOk dec s0 gr tb m cs stk pl dd ((EV (M+20)).exs fwBody ⟨dd,t.putT 6 x⟩ s):=by
 walk_at "e dec cs gr tb m M dd pl s0 s stk t x sr tr vs|hl hsn hm hml TKe I hne"
 obtain ⟨g0,g1,g2,g3,g4,g5,hs,ht,rep,sr0,tr0,sr1,tr1,ne,le,len,path,ext⟩:=I
 have hms:s.h.get m=some (.list (strs1 cs)):=(ext.get _ hml).trans hm
 have hsm:small (strs1 cs)=true:=Yx (by rw [Zn];lia)
 have K:=TKe s ext
 refine oEA (K.act) fun lr a1 a2=> ?_
 have htop:=path_top path
 have hla:cs[pl]? =none∨∃ c,cs[pl]? =some c∧isSign c:=by
  cases e:cs[pl]? with
  | none=>exact .inl rfl
  | some c=>exact .inr ⟨c,rfl,hsn c (Qx e)⟩
 refine oEEEEAAA (a2 (top stk) cs[pl]? htop hla) fun ar ae aep v b1 b2 b3 b4=> ?_
 have rl:=rep.len
 have vl:vs.length=stk.length:=by rw [rl];simp
 have e0:(EV (M+19)).ev fwSign ⟨dd,t.putT 6 x⟩ s=some (.str (sgn cs[pl]?),s):=by
  cases e:cs[pl]? with
  | none=>
   have:cs.length≤pl:=by rw [List.getElem?_eq_none_iff] at e;exact e
   apply x_ifx (c:=false)
   ·apply t_cmp
    ·walk_at "am_ev"
    ·apply x_len
     ·walk_at "am_ev"
     ·exact hms
     ·exact hsm
    ·rw [lt_int,Zn,Wk];lia
   ·exact x_str strs_9
  | some c=>
   have hlt:pl < cs.length:=(Wn e).1
   have q0:getI (.ref m) (.int (.ofNat pl)) s=some (.str [c]):=Xh hms (by rw [Zn];lia) (Vh e)
   apply x_ifx (c:=true)
   ·apply t_cmp
    ·walk_at "am_ev"
    ·apply x_len
     ·walk_at "am_ev"
     ·exact hms
     ·exact hsm
    ·rw [lt_int,Zn,Wj];lia
   ·skip
    walk_at "am_ev"
 refine oE (stV_top stk) fun ys hys=> ?_
 have lastS:getI (.ref sr) (.int (-(Int.ofNat 1))) s=some (.int (.ofNat (top stk))):=getI_last (by rw [hs,hys]) (by have:=stV_len stk;rw [hys] at this;simp at this;lia)
 let t2:Tr AV:=((t.putT 6 x).putT 7 (.str (sgn cs[pl]?))).putT 8 v
 have start:∀ R,(EV (M+20)).exs (fwBody.drop 2) ⟨dd,t2⟩ s=R→(EV (M+20)).exs fwBody ⟨dd,t.putT 6 x⟩ s=R:=by
  intro R hR
  apply Xq
  ·exact e0
  apply Xq
  ·apply x_get
   ·intro _ _ h;cases h
   ·apply x_sub
    ·apply x_attr
     ·walk_at "am_ev"
     ·exact a1
    ·apply x_sub
     ·walk_at "am_ev"
     ·walk_at "am_ev"
     ·exact lastS
    ·exact b1
   ·exact b2
   ·walk_at "am_ev"
   ·exact b2
   ·exact b3
  exact hR
 have k0:(Lo.mk dd t2).get 0=some (.ref gr):=gg rfl (gg rfl (gg rfl g0))
 have k1:(Lo.mk dd t2).get 1=some (.ref tb):=gg rfl (gg rfl (gg rfl g1))
 have k2:(Lo.mk dd t2).get 2=some (.ref m):=gg rfl (gg rfl (gg rfl g2))
 have k3:(Lo.mk dd t2).get 3=some (.ref sr):=gg rfl (gg rfl (gg rfl g3))
 have k4:(Lo.mk dd t2).get 4=some (.ref tr):=gg rfl (gg rfl (gg rfl g4))
 have k5:(Lo.mk dd t2).get 5=some (.int (.ofNat pl)):=gg rfl (gg rfl (gg rfl g5))
 have k7:(Lo.mk dd t2).get 7=some (.str (sgn cs[pl]?)):=gg rfl Zy
 have k8:(Lo.mk dd t2).get 8=some v:=Zy
 clear_value t2
 unfold TurnOk
 cases ha:act dec (top stk) cs[pl]? with
 | err=>
  rw [ha] at b4
  have b4:v= .non:=b4
  subst b4
  refine ⟨⟨dd,t2⟩,s,start _ ?_,ext⟩
  unfold fwBody b_lf
  apply Zj (q:=true)
  ·apply t_cmp
   ·walk_at "am_ev"
   ·walk_at "am_ev"
   ·rfl
  ·apply e_ret;walk_at "am_ev"
  ·walk_at "am_leave"
 | acc=>
  rw [ha] at b4
  have b4:v= .int (.ofNat 0):=b4
  subst b4
  cases stk with
  | nil=>exact absurd rfl (hne _ ha)
  | cons y r=>
   have hv:∃ us u,vs=us++ [u]∧RepY sr tr s u y.2:=by
    simp only [List.reverse_cons,List.map_append,List.map_cons,List.map_nil] at rep
    have l1:vs.length=(r.reverse.map (·.2)).length+1:=by rw [vl];simp
    have q1:=rep.take (r.reverse.map (·.2)).length
    have q2:=rep.drop (r.reverse.map (·.2)).length
    rw [List.drop_left] at q2
    have e:vs=vs.take (r.reverse.map (·.2)).length++vs.drop (r.reverse.map (·.2)).length:=(List.take_append_drop _ _).symm
    generalize vs.drop (r.reverse.map (·.2)).length=w at *
    cases q2 with
    | cons h r0=>
     cases r0
     exact ⟨_,_,e,h⟩
   (refine oEEA hv fun us u q2z hu=> ?_;clear hv;subst q2z)
   have lastT:getI (.ref tr) (.int (-(Int.ofNat 1))) s=some u:=getI_last ht (by have h1:=vl;simp at h1;have h2:=len;simp at h2;lia)
   refine ⟨⟨dd,t2⟩,s,u,start _ ?_,ext,fun z hz=>by cases hz;exact hu.rep⟩
   unfold fwBody b_lf
   apply e_ife (q:=false)
   ·apply t_cmp
    ·walk_at "am_ev"
    ·walk_at "am_ev"
    ·rfl
   ·exact e_nil
   apply Zj (q:=false)
   ·apply t_cmp
    ·walk_at "am_ev"
    ·walk_at "am_ev"
    ·rw [gt_int];rfl
   ·apply Zj (q:=false)
    ·apply t_cmp
     ·walk_at "am_ev"
     ·walk_at "am_ev"
     ·rw [lt_int];rfl
    ·apply e_ret
     apply x_sub
     ·walk_at "am_ev"
     ·walk_at "am_ev"
     ·exact lastT
    ·walk_at "am_leave"
   ·walk_at "am_leave"
 | shift j=>
  rw [ha] at b4
  obtain ⟨rfl,hj⟩:v= .int (.ofNat j)∧0 < j:=b4
  obtain ⟨c,hc⟩:∃ c,cs[pl]? =some c:=by
   cases e:cs[pl]? with
   | some c=>exact ⟨c,rfl⟩
   | none=>
    rw [e] at ha
    exact absurd ha (no_shift htop)
  have hlt:pl < cs.length:=(Wn hc).1
  have k7':(Lo.mk dd t2).get 7=some (.str [c]):=by rw [k7,hc];rfl
  let s1:St:=⟨s.h.putT sr (.list (stV stk++ [.int (.ofNat j)])),s.nx⟩
  let s2:St:=⟨s1.h.putT tr (.list (vs++ [.str [c]])),s1.nx⟩
  have ht1:s1.h.get tr=some (.list vs):=Zb ht (fun h=>ne h.symm)
  have hs2:s2.h.get sr=some (.list (stV stk++ [.int (.ofNat j)])):=Zb Zg ne
  have x2:Ext s0 s2:=⟨fun i hi=>Zb (Zb (ext.get i hi) (by lia)) (by lia),ext.nx⟩
  have same:∀ r,r < s.nx→r≠sr→r≠tr→s2.h.get r=s.h.get r∧r≠sr∧r≠tr:=fun r uu h1 h2=>⟨Zb (Zb rfl h1) h2,h1,h2⟩
  have path2:Path ((j,T.leaf c)::stk):=⟨(shift_edge htop ha).1,path⟩
  refine ⟨c,t2.putT 5 (.int (.ofNat (pl+1))),s2,sr,tr,vs++ [.str [c]],hc,start _ ?_,
   ⟨gg rfl k0,gg rfl k1,gg rfl k2,gg rfl k3,gg rfl k4,Zy,by rw [hs2,stV_cons],Zg,?_,sr0,tr0,sr1,tr1,ne,hlt,by simp;lia,path2,x2⟩⟩
  ·unfold fwBody b_lf
   apply e_ife (q:=false)
   ·apply t_cmp
    ·walk_at "am_ev"
    ·walk_at "am_ev"
    ·rfl
   ·exact e_nil
   apply e_ife (q:=true)
   ·apply t_cmp
    ·walk_at "am_ev"
    ·walk_at "am_ev"
    ·rw [gt_int,Wj];lia
   ·apply e_expr
    ·apply x_append
     ·intro _ _ h;cases h
     ·walk_at "am_ev"
     ·exact hs
     ·walk_at "am_ev"
     ·exact hs
     ·rw [stV_len];lia
    apply e_expr
    ·apply x_append
     ·intro _ _ h;cases h
     ·walk_at "am_ev"
     ·exact ht1
     ·exact x_loc k7'
     ·exact ht1
     ·lia
    apply e_augN
    ·exact k5
    ·walk_at "am_ev"
    ·rfl
    ·exact e_nil
   ·exact e_nil
  ·have:((j,T.leaf c)::stk).reverse.map (·.2)=stk.reverse.map (·.2)++ [T.leaf c]:=by simp
   rw [this]
   exact (RepYs.mono same (Nat.le_refl _) rep).append (.cons (.leaf c) .nil)
 | red r=>
  rw [ha] at b4
  obtain ⟨rfl,hr0⟩:v= .int (-(Int.ofNat r))∧0 < r:=b4
  refine oAAAA (red_path path ha) fun c1 c2 c3 c4 c5=> ?_
  refine oEA (K.rule) fun pr d1 d2=> ?_
  refine Yg (d2 r c2 c3) fun rr xs d3 d4 d5 d6=> ?_
  have hk3:0 < rlen r:=(rlen_3 r).1
  let kept:=stk.length - rlen r
  have hkept:(Int.ofNat vs.length - Int.ofNat xs.length:Int)=Int.ofNat kept:=by
   rw [vl,d5];exact (Int.ofNat_sub c1).symm
  let s1:St:=⟨s.h.putT s.nx (.list (vs.drop kept)),s.nx+1⟩
  let s2:St:=⟨s1.h.putT s1.nx (.list (vs.take kept)),s1.nx+1⟩
  let s3:St:=⟨s2.h.putT s2.nx (.list [.ref s.nx]),s2.nx+1⟩
  let s4:St:=⟨s3.h.putT s3.nx (.list (vs.take kept++ [.ref s.nx])),s3.nx+1⟩
  let s5:St:=⟨s4.h.putT s4.nx (.list ((stV stk).take (kept+1))),s4.nx+1⟩
  have hst:(stV stk).take (kept+1)=stV (stk.drop (rlen r)):=by
   unfold stV
   rw [List.take_succ_cons,rev_take _ _ _ c1]
  let s6:St:=⟨s5.h.putT s4.nx (.list (stV (stk.drop (rlen r))++ [.int (.ofNat (goTo (top (stk.drop (rlen r)))))])),s5.nx⟩
  have E1:Ext s s1:=Ext.push s _
  have E2:Ext s1 s2:=Ext.push s1 _
  have E3:Ext s2 s3:=Ext.push s2 _
  have E4:Ext s3 s4:=Ext.push s3 _
  have E5:Ext s4 s5:=Ext.push s4 _
  have E05:Ext s0 s5:=((((ext.trans E1).trans E2).trans E3).trans E4).trans E5
  have K5:=TKe s5 E05
  refine oEA (K5.goto) fun lg f1 f2=> ?_
  refine oEA (f2 _ c4) fun gar f3 f4=> ?_
  have hnx:s4.nx=s.nx+4:=rfl
  have ht1:s1.h.get tr=some (.list vs):=(E1.get _ tr1).trans ht
  have hs4:s4.h.get sr=some (.list (stV stk)):=(E4.get _ (by refine (?_:sr < s.nx+1+1+1);lia)).trans ((E3.get _ (by refine (?_:sr < s.nx+1+1);lia)).trans ((E2.get _ (by refine (?_:sr < s.nx+1);lia)).trans ((E1.get _ sr1).trans hs)))
  have h5s:s5.h.get s4.nx=some (.list (stV (stk.drop (rlen r)))):=by
   rw [Zg,hst]
  refine oE (stV_top (stk.drop (rlen r))) fun zs hzs=> ?_
  have lastS5:getI (.ref s4.nx) (.int (-(Int.ofNat 1))) s5=some (.int (.ofNat (top (stk.drop (rlen r))))):=getI_last (by rw [h5s,hzs]) (by have:=stV_len (stk.drop (rlen r));rw [hzs] at this;simp at this;lia)
  have name5:getA P1 (.ref rr) 0 s5=some (.str [69]):=d6 s5 ((((E1.trans E2).trans E3).trans E4).trans E5)
  have same:∀ q,q < s.nx→q≠sr→q≠tr→s6.h.get q=s.h.get q∧q≠s4.nx∧q≠s3.nx:=fun q hq uu uu=>by
   have n3:s3.nx=s.nx+3:=rfl
   refine ⟨?_,by lia,by lia⟩
   rw [Zb rfl (by lia)]
   exact (E5.get _ (by lia)).trans ((E4.get _ (by lia)).trans ((E3.get _ (by refine (?_:q < s.nx+2);lia)).trans ((E2.get _ (by refine (?_:q < s.nx+1);lia)).trans (E1.get _ hq))))
  have g1n:s6.h.get s.nx=some (.list (vs.drop kept)):=by
   have n3:s3.nx=s.nx+3:=rfl
   rw [Zb rfl (by lia)]
   refine (E5.get _ (by lia)).trans ((E4.get _ (by lia)).trans ((E3.get _ (by refine (?_:s.nx < s.nx+2);lia)).trans ((E2.get _ (by refine (?_:s.nx < s.nx+1);lia)).trans ?_)))
   exact Zg
  have kids:RepYs s4.nx s3.nx s6 (vs.drop kept) ((stk.take (rlen r)).reverse.map (·.2)):=by
   have:=RepYs.mono same (by refine (?_:s.nx≤s.nx+5);lia) (rep.drop kept)
   rw [rev_drop _ _ _ c1] at this
   exact this
  have olds:RepYs s4.nx s3.nx s6 (vs.take kept) ((stk.drop (rlen r)).reverse.map (·.2)):=by
   have:=RepYs.mono same (by refine (?_:s.nx≤s.nx+5);lia) (rep.take kept)
   rw [rev_take _ _ _ c1] at this
   exact this
  refine ⟨((((t2.putT 9 (.ref rr)).putT 10 (.int (.ofNat kept))).putT 11 (.ref s.nx)).putT 4 (.ref s3.nx)).putT 3 (.ref s4.nx),s6,s4.nx,s3.nx,vs.take kept++ [.ref s.nx],start _ ?_,⟨?_,?_,?_,Zy,gg rfl Zy,?_,?_,?_,?_,?_,?_,?_,?_,?_,le,?_,⟨red_edge c4,c5⟩,?_⟩⟩
  ·unfold fwBody b_lf
   apply e_ife (q:=false)
   ·apply t_cmp
    ·walk_at "am_ev"
    ·walk_at "am_ev"
    ·rfl
   ·exact e_nil
   apply e_ife (q:=false)
   ·apply t_cmp
    ·walk_at "am_ev"
    ·walk_at "am_ev"
    ·rw [gt_int,Wk];lia
   ·apply e_ife (q:=true)
    ·apply t_cmp
     ·walk_at "am_ev"
     ·walk_at "am_ev"
     ·rw [lt_int,Wj];lia
    ·apply Xq
     ·apply x_sub
      ·apply x_attr
       ·walk_at "am_ev"
       ·exact d1
      ·apply x_neg
       walk_at "am_ev"
      ·rw [Int.neg_neg];exact d3
     apply Xq (v:= .int (.ofNat kept)) (s1:=s)
     ·have q1:=fun (n:Nat) (l:Lo) (h:(EV (n+1)).ev (.loc 4 ⟨747,23,747,28⟩) l s=some (.ref tr,s))=>x_len (n:=n) (l:=l) (p1:=⟨747,19,747,22⟩) (p:=⟨747,19,747,29⟩) h ht (Yx (by lia))
      rw [←hkept]
      apply x_minus
      ·apply q1
       walk_at "am_ev"
      ·apply x_lent
       ·apply x_attr
        ·walk_at "am_ev"
        ·exact d4
       ·rw [d5];exact Nat.le_trans (rlen_3 r).2 (by decide)
     apply Xq
     ·apply x_slc
      ·walk_at "am_ev"
      ·apply optE_some
       walk_at "am_ev"
      ·exact optE_none
      ·exact slice_list ht (by lia) (cut_drop vs kept)
     apply Xq
     ·apply x_pre
      ·apply x_slc
       ·walk_at "am_ev"
       ·exact optE_none
       ·apply optE_some
        walk_at "am_ev"
       ·exact slice_list ht1 (by lia) (cut_take vs kept)
      ·apply x_lst
       ·rfl
       ·walk_at "am_evs"
      ·exact pre_add (s:=s3) (m:=s1.nx) (k:=s2.nx) (Zb Zg (by refine (?_:s.nx+1≠s.nx+1+1);lia)) Zg (by simp;lia) (by simp)
     apply Xq
     ·apply x_slc
      ·walk_at "am_ev"
      ·exact optE_none
      ·apply optE_some
       walk_at "am_ev"
      ·exact slice_list hs4 (by rw [stV_len];lia) (cut_take (stV stk) (kept+1))
     apply e_expr
     ·apply x_append
      ·intro _ _ h;cases h
      ·walk_at "am_ev"
      ·exact h5s
      ·apply x_sub
       ·apply x_sub
        ·apply x_attr
         ·walk_at "am_ev"
         ·exact f1
        ·apply x_sub
         ·walk_at "am_ev"
         ·walk_at "am_ev"
         ·exact lastS5
        ·exact f3
       ·apply x_attr
        ·walk_at "am_ev"
        ·exact name5
       ·exact f4
      ·exact h5s
      ·rw [stV_len];simp;lia
     exact e_nil
    ·exact e_nil
   ·exact e_nil
  ·exact gg rfl (gg rfl (gg rfl (gg rfl (gg rfl k0))))
  ·exact gg rfl (gg rfl (gg rfl (gg rfl (gg rfl k1))))
  ·exact gg rfl (gg rfl (gg rfl (gg rfl (gg rfl k2))))
  ·exact gg rfl (gg rfl (gg rfl (gg rfl (gg rfl k5))))
  ·skip
   rw [Zg,stV_cons]
  ·skip
   rw [Zb rfl (by refine (?_:s.nx+3≠s.nx+4);lia)]
   exact (E5.get _ (by refine (?_:s.nx+3 < s.nx+4);lia)).trans Zg
  ·have:((goTo (top (stk.drop (rlen r))),T.node ((stk.take (rlen r)).reverse.map (·.2)))::stk.drop (rlen r)).reverse.map (·.2)=(stk.drop (rlen r)).reverse.map (·.2)++ [T.node ((stk.take (rlen r)).reverse.map (·.2))]:=by simp
   rw [this]
   exact olds.append (.cons (.node g1n (by refine (?_:s.nx < s.nx+5);lia) (by refine (?_:s.nx≠s.nx+4);lia) (by refine (?_:s.nx≠s.nx+3);lia) kids) .nil)
  ·have:=ext.nx;lia
  ·have:=ext.nx;lia
  ·lia
  ·lia
  ·lia
  ·simp;lia
  ·have:=ext.nx
   exact ⟨fun i hi=>by
    rw [Zb rfl (by lia)]
    exact E05.get i hi,by refine (?_:s0.nx≤s.nx+5);lia⟩
theorem range_turn {E:Ev} {t:Tgt} {b:List CS} {f i n:Nat} {l l1:Lo} {s:St} (h:i < n) (h1:bindT t (.int (.ofNat i)) l=some l1):forLoop E t b [] (f+1) (.range i n) l s=(match E.exs b l1 s with
   | some (fl,l,s)=>match fl with
    | .next=>forLoop E t b [] f (.range (i+1) n) l s
    | .cont=>forLoop E t b [] f (.range (i+1) n) l s
    | .brk=>some (.next,l,s)
    | .ret v=>some (.ret v,l,s)
   | none=>none):=by
 have e:itNext (.range i n) s=some (some (.int (.ofNat i),.range (i+1) n)):=gO (Wb h) (Zk _ _)
 exact gIt e (gH h1 rfl)
theorem range_end {E:Ev} {t:Tgt} {b:List CS} {f n:Nat} {l:Lo} {s:St}:forLoop E t b [] (f+1) (.range n n) l s=E.exs [] l s:=by
 have e:itNext (.range n n) s=some none:=gP (by rw [blt_eq];simp) rfl
 exact gIn e rfl
theorem act_nil {dec:Nat→Nat→Nat} {la:Option Nat} {stk:List (Nat × T)} (h:act dec (top stk) la= .acc):stk≠[]:=by
 rintro rfl
 exact no_acc h
theorem fw_loop {dec:Nat→Nat→Nat} {cs:List Nat} {gr tb m M dd:Nat} {s0:St} {pp:Pos} (hl:cs.length≤100) (hsn:∀ c∈cs,isSign c) (hm:s0.h.get m=some (.list (strs1 cs))) (hml:m < s0.nx) (TKe:∀ s',Ext s0 s'→TK dec gr tb s'):
  ∀ (k i f:Nat) (stk:List (Nat × T)) (pl:Nat) (t:Tr AV) (s:St) (sr tr:Nat) (vs:List AV),FI s0 gr tb m cs stk pl dd t s sr tr vs→i+k=80→k < f→
  ∃ fl l' s',forLoop (EV (M+20)) (.one 6 pp) fwBody [] f (.range i 80) ⟨dd,t⟩ s=some (fl,l',s')∧Ext s0 s'∧match lr dec cs k stk pl with
   | none=>fl= .next∨fl= .ret .non
   | some tt=>∃ v,fl= .ret v∧RepT s' v tt
 | 0,i,f+1,stk,pl,t,s,sr,tr,vs,I,hi,_=>by
  have e:i=80:=by lia
  subst e
  exact ⟨.next,⟨dd,t⟩,s,by rw [range_end];exact e_nil,I.ext,.inl rfl⟩
 | k+1,i,f+1,stk,pl,t,s,sr,tr,vs,I,hi,hf=>by
  have T0:=turn_ok (M:=M) (x:= .int (.ofNat i)) hl hsn hm hml TKe I (fun la h=>act_nil h)
  rw [range_turn (by lia) (show bindT (.one 6 pp) (.int (.ofNat i)) ⟨dd,t⟩=some ⟨dd,t.putT 6 (.int (.ofNat i))⟩ from Lo.set_eq _ _ _)]
  rw [lr_s]
  unfold TurnOk at T0
  cases ha:act dec (top stk) cs[pl]? with
  | err=>
   rw [ha] at T0
   obtain ⟨l',s',h,x⟩:=T0
   rw [h]
   exact ⟨_,_,_,rfl,x,.inr rfl⟩
  | acc=>
   rw [ha] at T0
   obtain ⟨l',s',v,h,x,hv⟩:=T0
   rw [h]
   cases stk with
   | nil=>exact absurd rfl (act_nil ha)
   | cons y r=>exact ⟨_,_,_,rfl,x,v,rfl,hv y rfl⟩
  | shift j=>
   rw [ha] at T0
   obtain ⟨c,t',s',sr',tr',vs',hc,h,I'⟩:=T0
   rw [h,hc]
   exact fw_loop hl hsn hm hml TKe k (i+1) f _ _ _ _ _ _ _ I' (by lia) (by lia)
  | red r=>
   rw [ha] at T0
   obtain ⟨t',s',sr',tr',vs',h,I'⟩:=T0
   rw [h]
   exact fw_loop hl hsn hm hml TKe k (i+1) f _ _ _ _ _ _ _ I' (by lia) (by lia)
theorem followed_ok {dec:Nat→Nat→Nat} {cs:List Nat} {gr tb m M d:Nat} {l:Lo} {s:St} (hl:cs.length≤39) (hsn:∀ c∈cs,isSign c) (hd0:∀ c,dec 0 c=0) (hm:s.h.get m=some (.list (strs1 cs))) (hml:m < s.nx) (TKe:∀ s',Ext s s'→TK dec gr tb s') (hd:l.dep=d+1):
  ∃ v s',callFn P1 (EV (M+21)) 88 [.ref gr,.ref tb,.ref m] l s=some (v,s')∧Ext s s'∧match due dec cs with
   | none=>v= .non
   | some t=>RepT s' v t:=by
 walk_at "e dec cs gr tb m M d l s|hl hsn hd0 hm hml TKe hd"
 let s1:St:=⟨s.h.putT s.nx (.list [.int (.ofNat 0)]),s.nx+1⟩
 let s2:St:=⟨s1.h.putT s1.nx (.list []),s1.nx+1⟩
 let t0:Tr AV:=(((((Tr.nil.putT 0 (.ref gr)).putT 1 (.ref tb)).putT 2 (.ref m)).putT 3 (.ref s.nx)).putT 4 (.ref s1.nx)).putT 5 (.int (.ofNat 0))
 have x2:Ext s s2:=(Ext.push s _).trans (Ext.push s1 _)
 have I:FI s gr tb m cs [] 0 d t0 s2 s.nx s1.nx []:=
  ⟨gg rfl (gg rfl (gg rfl (gg rfl (gg rfl Zy)))),gg rfl (gg rfl (gg rfl (gg rfl Zy))),gg rfl (gg rfl (gg rfl Zy)),
   gg rfl (gg rfl Zy),gg rfl Zy,Zy,Zb Zg (by refine (?_:s.nx≠s.nx+1);lia),Zg,.nil,Nat.le_refl _,Nat.le_succ _,by refine (?_:s.nx < s.nx+2);lia,Wz _,by refine (?_:s.nx≠s.nx+1);lia,Nat.zero_le _,Nat.le_refl _,trivial,x2⟩
 obtain ⟨fl,l',s3,h,x3,hr⟩:=fw_loop (M:=M) (pp:=⟨736,8,736,12⟩) (by lia) hsn hm hml TKe 80 0 200 [] 0 t0 s2 s.nx s1.nx [] I rfl (by lia)
 rw [tables_read (by intro c hc;have:=hsn c hc;unfold isSign at this;lia) hd0 80 (by lia)] at hr
 have st:∀ {p1 p2 p3:Pos} {l:Lo} {s:St},startIt theN (EV (M+20)) (.calG 94 p1 [.num 80 p2] p3) l s=some (.range 0 80,s):=by intros;rfl
 have whole:∀ v,(fl= .ret v∨(fl= .next∧v= .non))→callFn P1 (EV (M+21)) 88 [.ref gr,.ref tb,.ref m] l s=some (v,s3):=by
  intro v hv
  refine c_fn fn_followed rfl rfl hd (by rw [Xz,Xz,Xz,Yn]) ?_
  refine ⟨l',?_⟩
  refine (?_:(EV (M+21)).exs b_lf _ _=_)
  apply Xq
  ·apply x_lst
   ·rfl
   ·walk_at "am_evs"
  apply Xq
  ·apply x_lst
   ·rfl
   ·exact Yw
  apply Xq
  ·walk_at "am_ev"
  rcases hv with rfl | ⟨rfl,rfl⟩
  ·apply e_for_out
   ·exact st
   ·exact h
  ·apply e_for
   ·exact st
   ·exact h
   ·apply e_ret;walk_at "am_ev"
 cases e:due dec cs with
 | none=>
  rw [e] at hr
  refine ⟨.non,s3,whole _ ?_,x3,rfl⟩
  rcases hr with rfl | rfl
  ·exact .inr ⟨rfl,rfl⟩
  ·exact .inl rfl
 | some t=>
  rw [e] at hr
  obtain ⟨v,rfl,rep⟩:=hr
  exact ⟨v,s3,whole _ (.inl rfl),x3,rep⟩
noncomputable def beqAV:Nat→AV→AV→Bool
 | 0,_,_=>false
 | f+1,a,b=>match a with
  | .non=>(match b with | .non=>true | _=>false)
  | .int i=>(match b with | .int j=>beqI i j | _=>false)
  | .str x=>(match b with | .str y=>beqS x y | _=>false)
  | .ref n=>(match b with | .ref m=>Nat.beq n m | _=>false)
  | .glo n=>(match b with | .glo m=>Nat.beq n m | _=>false)
  | .sym n=>(match b with | .sym m=>Nat.beq n m | _=>false)
  | .act x y p j=>(match b with | .act x' y' p' j'=>Nat.beq x x' && (Nat.beq y y' && (Nat.beq p p' && Nat.beq j j')) | _=>false)
  | .tup xs=>(match b with | .tup ys=>beqL (beqAV f) xs ys | _=>false)
  | _=>false
where beqL (g:AV→AV→Bool):List AV→List AV→Bool
 | [],[]=>true
 | x::xs,y::ys=>g x y && beqL g xs ys
 | _,_=>false
theorem beqL_eq {g:AV→AV→Bool} (hg:∀ a b,g a b=true→a=b):∀ {xs ys:List AV},beqAV.beqL g xs ys=true→xs=ys
 | [],[],_=>rfl
 | x::xs,y::ys,h=>by
  have h:=bt1 h
  rw [hg _ _ h.1,beqL_eq hg h.2]
 | [],_::_,h=>by exact fat h
 | _::_,[],h=>by exact fat h
section
variable {b:AV}
theorem bNon (h:(match b with | .non=>true | _=>false)=true):AV.non=b:=by cases b <;> first | rfl | exact fat h
theorem bInt {A:Int→Bool} (h:(match b with | .int j=>A j | _=>false)=true):∃ j,.int j=b∧A j=true:=by cases b <;> first | exact fat h | exact ⟨_,rfl,h⟩
theorem bStr {A:List Nat→Bool} (h:(match b with | .str j=>A j | _=>false)=true):∃ j,.str j=b∧A j=true:=by cases b <;> first | exact fat h | exact ⟨_,rfl,h⟩
theorem bRef {A:Nat→Bool} (h:(match b with | .ref j=>A j | _=>false)=true):∃ j,.ref j=b∧A j=true:=by cases b <;> first | exact fat h | exact ⟨_,rfl,h⟩
theorem bGlo {A:Nat→Bool} (h:(match b with | .glo j=>A j | _=>false)=true):∃ j,.glo j=b∧A j=true:=by cases b <;> first | exact fat h | exact ⟨_,rfl,h⟩
theorem bSym {A:Nat→Bool} (h:(match b with | .sym j=>A j | _=>false)=true):∃ j,.sym j=b∧A j=true:=by cases b <;> first | exact fat h | exact ⟨_,rfl,h⟩
theorem bTup {A:List AV→Bool} (h:(match b with | .tup j=>A j | _=>false)=true):∃ j,.tup j=b∧A j=true:=by cases b <;> first | exact fat h | exact ⟨_,rfl,h⟩
theorem bAct {A:Nat→Nat→Nat→Nat→Bool} (h:(match b with | .act x y p j=>A x y p j | _=>false)=true):∃ x y p j,.act x y p j=b∧A x y p j=true:=by cases b <;> first | exact fat h | exact ⟨_,_,_,_,rfl,h⟩
end
theorem beqAV_eq:∀ (f:Nat) (a b:AV),beqAV f a b=true→a=b
 | 0,_,_,h=>by exact fat h
 | f+1,a,b,h=>by
  cases a with
  | non=>exact bNon h
  | int i=>refine oEA (bInt h) fun j q r=> ?_;rw [Vd] at r;exact (congrArg AV.int (Qd r)).trans q
  | str i=>refine oEA (bStr h) fun j q r=> ?_;rw [Vb] at r;exact (congrArg AV.str (Qd r)).trans q
  | ref i=>refine oEA (bRef h) fun j q r=> ?_;exact (congrArg AV.ref (Qy r)).trans q
  | glo i=>refine oEA (bGlo h) fun j q r=> ?_;exact (congrArg AV.glo (Qy r)).trans q
  | sym i=>refine oEA (bSym h) fun j q r=> ?_;exact (congrArg AV.sym (Qy r)).trans q
  | tup i=>refine oEA (bTup h) fun j q r=> ?_;exact (congrArg AV.tup (beqL_eq (beqAV_eq f) r)).trans q
  | act x y p j=>
   obtain ⟨x',y',p',j',q,r⟩:=bAct h
   have r:=bt1 r
   have s:=bt1 r.2
   have t:=bt1 s.2
   rw [←q,Qy r.1,Qy s.1,Qy t.1,Qy t.2]
  | _=>exact fat h
noncomputable def beqEs:List (AV × AV)→List (AV × AV)→Bool
 | [],[]=>true
 | x::xs,y::ys=>(beqAV 5 x.1 y.1 && beqAV 5 x.2 y.2) && beqEs xs ys
 | _,_=>false
theorem beqEs_eq:∀ {xs ys:List (AV × AV)},beqEs xs ys=true→xs=ys
 | [],[],_=>rfl
 | x::xs,y::ys,h=>by
  have h:=bt2 h
  exact (congrArg (x:: ·) (beqEs_eq h.2)).trans (congrArg (· ::ys) (Prod.ext (beqAV_eq _ _ _ h.1.1) (beqAV_eq _ _ _ h.1.2)))
 | [],_::_,h=>by exact fat h
 | _::_,[],h=>by exact fat h
noncomputable def beqAO (a b:AO):Bool:=match a with
 | .inst c d=>(match b with | .inst c' d'=>Nat.beq c c' && Nat.beq d d' | _=>false)
 | .list xs=>(match b with | .list ys=>beqAV.beqL (beqAV 5) xs ys | _=>false)
 | .dict es ep=>(match b with | .dict es' ep'=>beqEs es es' && Nat.beq ep ep' | _=>false)
 | _=>false
theorem beqAO_eq {a b:AO} (h:beqAO a b=true):a=b:=by
 cases a with
 | inst c d=>
  cases b with
  | inst c' d'=>have h:=bt1 h;rw [Qy h.1,Qy h.2]
  | _=>exact fat h
 | list xs=>
  cases b with
  | list ys=>rw [beqL_eq (beqAV_eq 5) h]
  | _=>exact fat h
 | dict xs e=>
  cases b with
  | dict ys e'=>have h:=bt1 h;rw [beqEs_eq h.1,Qy h.2]
  | _=>exact fat h
 | _=>exact fat h
noncomputable def expO:List (Nat × AO):=[
 (3,.dict [(.str [97],.tup [.sym 0,.sym 1]),(.str [98],.tup [.sym 2,.sym 3]),(.str [85],.tup [.sym 4,.sym 5])] 3),
 (6,.inst 80 5),
 (82,.inst 84 81),
 (83,.dict [(.int (.ofNat 0),.ref 510),(.int (.ofNat 1),.ref 514),(.int (.ofNat 2),.ref 519),(.int (.ofNat 3),.ref 523),(.int (.ofNat 4),.ref 527),(.int (.ofNat 5),.ref 531),(.int (.ofNat 6),.ref 535),(.int (.ofNat 7),.ref 539),(.int (.ofNat 8),.ref 544),(.int (.ofNat 9),.ref 549),(.int (.ofNat 10),.ref 554),(.int (.ofNat 11),.ref 559)] 12),
 (84,.dict [(.int (.ofNat 0),.ref 512),(.int (.ofNat 1),.ref 516),(.int (.ofNat 2),.ref 521),(.int (.ofNat 3),.ref 525),(.int (.ofNat 4),.ref 529),(.int (.ofNat 5),.ref 533),(.int (.ofNat 6),.ref 537),(.int (.ofNat 7),.ref 541),(.int (.ofNat 8),.ref 546),(.int (.ofNat 9),.ref 551),(.int (.ofNat 10),.ref 556),(.int (.ofNat 11),.ref 561)] 12),
 (510,.dict [(.str [109],.int (.ofNat 2)),(.str [40],.int (.ofNat 3)),(.str [110],.int (.ofNat 4))] 3),
 (514,.dict [(.str [36,101,110,100],.int (.ofNat 0)),(.str [97],.int (.ofNat 5)),(.str [98],.int (.ofNat 6))] 3),
 (519,.dict [(.str [109],.int (.ofNat 2)),(.str [40],.int (.ofNat 3)),(.str [110],.int (.ofNat 4))] 3),
 (523,.dict [(.str [109],.int (.ofNat 2)),(.str [40],.int (.ofNat 3)),(.str [110],.int (.ofNat 4))] 3),
 (527,.dict [(.str [97],.int (.negSucc 4)),(.str [98],.int (.negSucc 4)),(.str [36,101,110,100],.int (.negSucc 4)),(.str [41],.int (.negSucc 4))] 4),
 (531,.dict [(.str [109],.int (.ofNat 2)),(.str [40],.int (.ofNat 3)),(.str [110],.int (.ofNat 4))] 3),
 (535,.dict [(.str [109],.int (.ofNat 2)),(.str [40],.int (.ofNat 3)),(.str [110],.int (.ofNat 4))] 3),
 (539,.dict [(.str [97],.act 2 0 3 5),(.str [98],.act 2 1 3 6),(.str [36,101,110,100],.int (.negSucc 2)),(.str [41],.int (.negSucc 2))] 4),
 (544,.dict [(.str [41],.int (.ofNat 11)),(.str [97],.int (.ofNat 5)),(.str [98],.int (.ofNat 6))] 3),
 (549,.dict [(.str [97],.act 0 0 1 5),(.str [98],.act 0 1 1 6),(.str [36,101,110,100],.int (.negSucc 0)),(.str [41],.int (.negSucc 0))] 4),
 (554,.dict [(.str [97],.act 1 0 2 5),(.str [98],.act 1 1 2 6),(.str [36,101,110,100],.int (.negSucc 1)),(.str [41],.int (.negSucc 1))] 4),
 (559,.dict [(.str [97],.int (.negSucc 3)),(.str [98],.int (.negSucc 3)),(.str [36,101,110,100],.int (.negSucc 3)),(.str [41],.int (.negSucc 3))] 4),
 (512,.dict [(.str [69],.int (.ofNat 1))] 1),
 (521,.dict [(.str [69],.int (.ofNat 7))] 1),
 (525,.dict [(.str [69],.int (.ofNat 8))] 1),
 (533,.dict [(.str [69],.int (.ofNat 9))] 1),
 (537,.dict [(.str [69],.int (.ofNat 10))] 1),
 (7,.list [.ref 75,.ref 38,.ref 46,.ref 53,.ref 60,.ref 67]),
 (38,.inst 37 37),
 (46,.inst 37 45),
 (53,.inst 37 52),
 (60,.inst 37 59),
 (67,.inst 37 66)]
noncomputable def expA:List (Nat × Nat × AV):=[
 (81,47,.ref 83),
 (81,48,.ref 84),
 (5,24,.ref 7),
 (37,1,.tup [.str [69],.str [97],.str [69]]),
 (37,0,.str [69]),
 (45,1,.tup [.str [69],.str [98],.str [69]]),
 (45,0,.str [69]),
 (52,1,.tup [.str [109],.str [69]]),
 (52,0,.str [69]),
 (59,1,.tup [.str [40],.str [69],.str [41]]),
 (59,0,.str [69]),
 (66,1,.tup [.str [110]]),
 (66,0,.str [69])]
noncomputable def isO (s:St) (n:Nat) (o:AO):Bool:=match s.h.get n with
 | some o'=>beqAO o' o
 | none=>false
noncomputable def isA (s:St) (n a:Nat) (v:AV):Bool:=match s.h.get n with
 | some (.attrs es)=>(match findA a es with | some w=>beqAV 5 w v | none=>false)
 | _=>false
noncomputable def isL (l:Lo) (x:Nat) (v:AV):Bool:=match l.get x with
 | some w=>beqAV 5 w v
 | none=>false
noncomputable def tabIs (s:St) (k:Nat):Bool:=match s.h.get k with
 | some (.tab j _)=>Nat.beq j k
 | _=>false
noncomputable def finChk (r:Option (Fl × Lo × St)):Bool:=match r with
 | some (.next,l,s)=>Nat.beq l.dep 30 && (Nat.blt 562 s.nx && (isL l 0 (.glo 2000) && (isL l 3 (.ref 3) && (isL l 4 (.ref 6) && (isL l 9 (.ref 82) && ((expO.all fun p=>isO s p.1 p.2) && ((expA.all fun q=>isA s q.1 q.2.1 q.2.2) && (tabIs s 0 && (tabIs s 1 && tabIs s 2)))))))))
 | _=>false
noncomputable def idx (p:Nat):Nat:=if p=97 then 0 else if p=98 then 1 else 2
noncomputable def decN (f s:Int) (p c:Nat):Nat:=
 if p=0 then 0
 else if levOf s (idx p) < levOf s (idx c)∨(levOf s (idx p)=levOf s (idx c)∧wayN f (levOf s (idx p))=1) then 0
 else if levOf s (idx p)=levOf s (idx c)∧wayN f (levOf s (idx p))=2 then 2
 else 1
structure FK (f s:Int) (st:St):Prop where
 nx:562 < st.nx
 o:∀ p∈expO,st.h.get p.1=some (concO f s p.2)
 a:∀ q∈expA,∃ es,st.h.get q.1=some (.attrs es)∧findA q.2.1 es=some (concV f s q.2.2)
theorem expO_lt:(expO.all fun p=>Nat.blt p.1 562)=true:=by decide
theorem expA_lt:(expA.all fun q=>Nat.blt q.1 562)=true:=by decide
theorem FK.mono {f s:Int} {st st':St} (k:FK f s st) (e:Ext st st'):FK f s st':=by
 have nx:=k.nx
 refine ⟨Wx k.nx e.nx,fun p hp=> ?_,fun q hq=> ?_⟩
 ·have:=Zz expO_lt p hp
  rw [blt_eq] at this
  have:=Qd this
  rw [e.get _ (by lia)];exact k.o p hp
 ·have:=Zz expA_lt q hq
  rw [blt_eq] at this
  have:=Qd this
  refine oEA (k.a q hq) fun es h1 h2=> ?_
  exact ⟨es,by rw [e.get _ (by lia)];exact h1,h2⟩
theorem findA_map (g:AV→AV) (a:Nat) (es:List (Nat × AV)):findA a (es.map fun e=>(e.1,g e.2))=(findA a es).map g:=by
 induction es with
 | nil=>rfl
 | cons e r ih=>
  cases e with
  | mk j x=>
   by_cases h:j=a
   ·subst h;rw [List.map_cons,findA_t,findA_t];rfl
   ·rw [List.map_cons,findA_f h,findA_f h];exact ih
theorem fk_run {f s:Int} {st:St} (nx:562 < st.nx) (h1:∀ p∈expO,st.h.get p.1=some p.2) (h2:∀ q∈expA,∃ es,st.h.get q.1=some (.attrs es)∧findA q.2.1 es=some q.2.2):FK f s (concS f s st):=by
 refine ⟨nx,fun p hp=> ?_,fun q hq=> ?_⟩
 ·refine (?_:(st.h.map _).get _=_)
  rw [Tr.get_map,h1 p hp];rfl
 ·refine oEA (h2 q hq) fun es e1 e2=> ?_
  refine ⟨es.map fun e=>(e.1,concV f s e.2),?_,?_⟩
  ·refine (?_:(st.h.map _).get _=_)
   rw [Tr.get_map,e1];rfl
  ·rw [findA_map,e2];rfl
theorem Yh {st:St} {n c d a:Nat} {es:List (Nat × AV)} {v:AV} {Cl:Cls} (h1:st.h.get n=some (.inst c d)) (h2:st.h.get d=some (.attrs es)) (h3:findA a es=some v) (h4:P1.cls c=some Cl) (h5:handed v=true):getA P1 (.ref n) a st=some v:=by
 exact gM h1 (gN h2 (gR h4 (gA h3 (gO h5 rfl))))
section
variable {f s:Int} {st:St}
theorem FK.at (k:FK f s st) {i:Nat} {n:Nat} {o:AO} (h:expO[i]? =some (n,o)):st.h.get n=some (concO f s o):=k.o _ (Qx h)
theorem FK.attr (k:FK f s st) {i:Nat} {n a:Nat} {v:AV} (h:expA[i]? =some (n,a,v)):∃ es,st.h.get n=some (.attrs es)∧findA a es=some (concV f s v):=k.a _ (Qx h)
theorem dec_act (x y p j p' c':Nat) (hp:p'≠0) (hx:idx p'=x) (hy:idx c'=y) (hj:0 < j) (hr:0 < p):ActV (byDec (decN f s) p' c' j p) (actA f s x y p j):=by
 subst hx hy
 by_cases h1:levOf s (idx p') < levOf s (idx c')∨(levOf s (idx p')=levOf s (idx c')∧wayN f (levOf s (idx p'))=1)
 ·have d:decN f s p' c'=0:=by unfold decN;rw [if_neg hp,if_pos h1]
  unfold byDec actA
  rw [if_pos d,if_pos h1];exact ⟨rfl,hj⟩
 ·by_cases h2:levOf s (idx p')=levOf s (idx c')∧wayN f (levOf s (idx p'))=2
  ·have d:decN f s p' c'=2:=by unfold decN;rw [if_neg hp,if_neg h1,if_pos h2]
   unfold byDec actA
   rw [d,if_neg (by decide),if_neg (by decide),if_neg h1,if_pos h2];rfl
  ·have d:decN f s p' c'=1:=by unfold decN;rw [if_neg hp,if_neg h1,if_neg h2]
   unfold byDec actA
   rw [d,if_neg (by decide),if_pos rfl,if_neg h1,if_neg h2];exact ⟨rfl,hr⟩
noncomputable def Rw (f s:Int) (st:St) (q:Nat):Prop:=∀ la,(la=none∨∃ c,la=some c∧isSign c)→∃ ar ae aep v,getI (.ref 83) (.int (.ofNat q)) st=some (.ref ar)∧st.h.get ar=some (.dict ae aep)∧(find (.str (sgn la)) ae=some (some v)∨(find (.str (sgn la)) ae=some none∧v= .non))∧ActV (act (decN f s) q la) v
noncomputable def Lf (f s:Int) (ae:List (AV × AV)) (q:Nat) (la:Option Nat):Prop:=∃ v,(find (.str (sgn la)) ae=some (some v)∨(find (.str (sgn la)) ae=some none∧v= .non))∧ActV (act (decN f s) q la) v
section
variable {ae:List (AV × AV)} {q:Nat} {la:Option Nat}
theorem lE (h:some none=find (.str (sgn la)) ae) (e:Act.err=act (decN f s) q la):Lf f s ae q la:=⟨.non,.inr ⟨h.symm,rfl⟩,by rw [←e];rfl⟩
theorem lS (n:Nat) (h:some (some (AV.int (.ofNat n)))=find (.str (sgn la)) ae) (e:Act.shift n=act (decN f s) q la) (c:true=Nat.blt 0 n):Lf f s ae q la:=⟨_,.inl h.symm,by rw [←e];exact ⟨rfl,Qh c.symm⟩⟩
theorem lR (n:Nat) (h:some (some (AV.int (-(Int.ofNat n))))=find (.str (sgn la)) ae) (e:Act.red n=act (decN f s) q la) (c:true=Nat.blt 0 n):Lf f s ae q la:=⟨_,.inl h.symm,by rw [←e];exact ⟨rfl,Qh c.symm⟩⟩
theorem lA (h:some (some (AV.int (.ofNat 0)))=find (.str (sgn la)) ae) (e:Act.acc=act (decN f s) q la):Lf f s ae q la:=⟨_,.inl h.symm,by rw [←e];rfl⟩
theorem lT (x y p j p' c':Nat) (h:some (some (actA f s x y p j))=find (.str (sgn la)) ae) (e:byDec (decN f s) p' c' j p=act (decN f s) q la) (hp:p'≠0∧idx p'=x∧idx c'=y∧0 < j∧0 < p):Lf f s ae q la:=
 ⟨_,.inl h.symm,by rw [←e];exact dec_act x y p j p' c' hp.1 hp.2.1 hp.2.2.1 hp.2.2.2.1 hp.2.2.2.2⟩
theorem rowQ {ar aep:Nat} (h1:getI (.ref 83) (.int (.ofNat q)) st=some (.ref ar)) (h2:st.h.get ar=some (.dict ae aep)) (c0:Lf f s ae q none) (c1:Lf f s ae q (some 97)) (c2:Lf f s ae q (some 98)) (c3:Lf f s ae q (some 109)) (c4:Lf f s ae q (some 110)) (c5:Lf f s ae q (some 40)) (c6:Lf f s ae q (some 41)):
  Rw f s st q:=fun la hl=>by
 have:Lf f s ae q la:=by
  rcases hl with rfl | ⟨c,rfl,rfl | rfl | rfl | rfl | rfl | rfl⟩ <;> assumption
 exact this.elim fun v a=>⟨ar,ae,aep,v,h1,h2,a⟩
theorem q1 {P:Nat→Prop} {n:Nat} (h:∀ q,q < n→P q) (p:P n):∀ q,q < n+1→P q:=fun q hq=>(Nat.lt_succ_iff_lt_or_eq.mp hq).elim (h q) fun e=>e ▸ p
end
theorem tk_ok (k:FK f s st):TK (decN f s) 6 82 st where
 act:=by
  walk_at "e f s st|k"
  refine oEA (k.attr (i:=0) rfl) fun es e1 e2=> ?_
  refine ⟨83,Yh (k.at (i:=2) rfl) e1 e2 (Cl:=_) rfl rfl,fun q la hq hla=> ?_⟩
  have hd:=k.at (i:=3) rfl
  revert la;revert q
  have r0:=rowQ (f:=f) (s:=s) (q:=0) (Zh hd rfl) (k.at (i:=5) rfl) (lE rfl rfl) (lE rfl rfl) (lE rfl rfl) (lS 2 rfl rfl rfl) (lS 4 rfl rfl rfl) (lS 3 rfl rfl rfl) (lE rfl rfl)
  have r1:=rowQ (f:=f) (s:=s) (q:=1) (Zh hd rfl) (k.at (i:=6) rfl) (lA rfl rfl) (lS 5 rfl rfl rfl) (lS 6 rfl rfl rfl) (lE rfl rfl) (lE rfl rfl) (lE rfl rfl) (lE rfl rfl)
  have r2:=rowQ (f:=f) (s:=s) (q:=2) (Zh hd rfl) (k.at (i:=7) rfl) (lE rfl rfl) (lE rfl rfl) (lE rfl rfl) (lS 2 rfl rfl rfl) (lS 4 rfl rfl rfl) (lS 3 rfl rfl rfl) (lE rfl rfl)
  have r3:=rowQ (f:=f) (s:=s) (q:=3) (Zh hd rfl) (k.at (i:=8) rfl) (lE rfl rfl) (lE rfl rfl) (lE rfl rfl) (lS 2 rfl rfl rfl) (lS 4 rfl rfl rfl) (lS 3 rfl rfl rfl) (lE rfl rfl)
  have r4:=rowQ (f:=f) (s:=s) (q:=4) (Zh hd rfl) (k.at (i:=9) rfl) (lR 5 rfl rfl rfl) (lR 5 rfl rfl rfl) (lR 5 rfl rfl rfl) (lE rfl rfl) (lE rfl rfl) (lE rfl rfl) (lR 5 rfl rfl rfl)
  have r5:=rowQ (f:=f) (s:=s) (q:=5) (Zh hd rfl) (k.at (i:=10) rfl) (lE rfl rfl) (lE rfl rfl) (lE rfl rfl) (lS 2 rfl rfl rfl) (lS 4 rfl rfl rfl) (lS 3 rfl rfl rfl) (lE rfl rfl)
  have r6:=rowQ (f:=f) (s:=s) (q:=6) (Zh hd rfl) (k.at (i:=11) rfl) (lE rfl rfl) (lE rfl rfl) (lE rfl rfl) (lS 2 rfl rfl rfl) (lS 4 rfl rfl rfl) (lS 3 rfl rfl rfl) (lE rfl rfl)
  have r7:=rowQ (f:=f) (s:=s) (q:=7) (Zh hd rfl) (k.at (i:=12) rfl) (lR 3 rfl rfl rfl) (lT 2 0 3 5 85 97 rfl rfl (by decide)) (lT 2 1 3 6 85 98 rfl rfl (by decide)) (lE rfl rfl) (lE rfl rfl) (lE rfl rfl) (lR 3 rfl rfl rfl)
  have r8:=rowQ (f:=f) (s:=s) (q:=8) (Zh hd rfl) (k.at (i:=13) rfl) (lE rfl rfl) (lS 5 rfl rfl rfl) (lS 6 rfl rfl rfl) (lE rfl rfl) (lE rfl rfl) (lE rfl rfl) (lS 11 rfl rfl rfl)
  have r9:=rowQ (f:=f) (s:=s) (q:=9) (Zh hd rfl) (k.at (i:=14) rfl) (lR 1 rfl rfl rfl) (lT 0 0 1 5 97 97 rfl rfl (by decide)) (lT 0 1 1 6 97 98 rfl rfl (by decide)) (lE rfl rfl) (lE rfl rfl) (lE rfl rfl) (lR 1 rfl rfl rfl)
  have r10:=rowQ (f:=f) (s:=s) (q:=10) (Zh hd rfl) (k.at (i:=15) rfl) (lR 2 rfl rfl rfl) (lT 1 0 2 5 98 97 rfl rfl (by decide)) (lT 1 1 2 6 98 98 rfl rfl (by decide)) (lE rfl rfl) (lE rfl rfl) (lE rfl rfl) (lR 2 rfl rfl rfl)
  have r11:=rowQ (f:=f) (s:=s) (q:=11) (Zh hd rfl) (k.at (i:=16) rfl) (lR 4 rfl rfl rfl) (lR 4 rfl rfl rfl) (lR 4 rfl rfl rfl) (lE rfl rfl) (lE rfl rfl) (lE rfl rfl) (lR 4 rfl rfl rfl)
  have r:∀ q,q < 12→Rw f s st q:=(q1 (q1 (q1 (q1 (q1 (q1 (q1 (q1 (q1 (q1 (q1 (q1 (fun uu h=>absurd h (Nat.not_lt_zero _)) r0) r1) r2) r3) r4) r5) r6) r7) r8) r9) r10) r11)
  exact fun q hq la h=>r q hq la h
 goto:=by
  refine oEA (k.attr (i:=1) rfl) fun es e1 e2=> ?_
  refine ⟨84,Yh (k.at (i:=2) rfl) e1 e2 (Cl:=_) rfl rfl,fun q hq=> ?_⟩
  have hd:=k.at (i:=4) rfl
  rcases hq with rfl | rfl | rfl | rfl | rfl
  ·exact ⟨_,Zh hd rfl,Zh (k.at (i:=17) rfl) rfl⟩
  ·exact ⟨_,Zh hd rfl,Zh (k.at (i:=18) rfl) rfl⟩
  ·exact ⟨_,Zh hd rfl,Zh (k.at (i:=19) rfl) rfl⟩
  ·exact ⟨_,Zh hd rfl,Zh (k.at (i:=20) rfl) rfl⟩
  ·exact ⟨_,Zh hd rfl,Zh (k.at (i:=21) rfl) rfl⟩
 rule:=by
  refine oEA (k.attr (i:=2) rfl) fun es e1 e2=> ?_
  refine ⟨7,Yh (k.at (i:=1) rfl) e1 e2 (Cl:=_) rfl rfl,fun r h0 h6=> ?_⟩
  have hd:=k.at (i:=22) rfl
  have hr:r=1∨r=2∨r=3∨r=4∨r=5:=by lia
  rcases hr with rfl | rfl | rfl | rfl | rfl
  ·refine oEA (k.attr (i:=3) rfl) fun es1 p1 p2=> ?_
   refine ⟨_,_,Xh (i:=1) hd (by simp [Ux]) rfl,Yh (k.at (i:=23) rfl) p1 p2 (Cl:=_) rfl rfl,rfl,fun s' e=> ?_⟩
   refine oEA ((k.mono e).attr (i:=4) rfl) fun es2 q1 q2=> ?_
   exact Yh ((k.mono e).at (i:=23) rfl) q1 q2 (Cl:=_) rfl rfl
  ·refine oEA (k.attr (i:=5) rfl) fun es1 p1 p2=> ?_
   refine ⟨_,_,Xh (i:=2) hd (by simp [Ux]) rfl,Yh (k.at (i:=24) rfl) p1 p2 (Cl:=_) rfl rfl,rfl,fun s' e=> ?_⟩
   refine oEA ((k.mono e).attr (i:=6) rfl) fun es2 q1 q2=> ?_
   exact Yh ((k.mono e).at (i:=24) rfl) q1 q2 (Cl:=_) rfl rfl
  ·refine oEA (k.attr (i:=7) rfl) fun es1 p1 p2=> ?_
   refine ⟨_,_,Xh (i:=3) hd (by simp [Ux]) rfl,Yh (k.at (i:=25) rfl) p1 p2 (Cl:=_) rfl rfl,rfl,fun s' e=> ?_⟩
   refine oEA ((k.mono e).attr (i:=8) rfl) fun es2 q1 q2=> ?_
   exact Yh ((k.mono e).at (i:=25) rfl) q1 q2 (Cl:=_) rfl rfl
  ·refine oEA (k.attr (i:=9) rfl) fun es1 p1 p2=> ?_
   refine ⟨_,_,Xh (i:=4) hd (by simp [Ux]) rfl,Yh (k.at (i:=26) rfl) p1 p2 (Cl:=_) rfl rfl,rfl,fun s' e=> ?_⟩
   refine oEA ((k.mono e).attr (i:=10) rfl) fun es2 q1 q2=> ?_
   exact Yh ((k.mono e).at (i:=26) rfl) q1 q2 (Cl:=_) rfl rfl
  ·refine oEA (k.attr (i:=11) rfl) fun es1 p1 p2=> ?_
   refine ⟨_,_,Xh (i:=5) hd (by simp [Ux]) rfl,Yh (k.at (i:=27) rfl) p1 p2 (Cl:=_) rfl rfl,rfl,fun s' e=> ?_⟩
   refine oEA ((k.mono e).attr (i:=12) rfl) fun es2 q1 q2=> ?_
   exact Yh ((k.mono e).at (i:=27) rfl) q1 q2 (Cl:=_) rfl rfl
noncomputable def waysC (f s:Int):List (AV × AV):=[(.str [97],.tup [.str (wayOf f s 0),.int (levOf s 0+1)]),(.str [98],.tup [.str (wayOf f s 1),.int (levOf s 1+1)]),(.str [85],.tup [.str (wayOf f s 2),.int (levOf s 2+1)])]
theorem ways_at (k:FK f s st):st.h.get 3=some (.dict (waysC f s) 3):=k.at (i:=0) rfl
theorem settle_dec (p c:Nat) (hp:p≠0):settle (wayOf f s (idx p)) (levOf s (idx p)+1) (levOf s (idx c)+1)=txt (decN f s p c):=by
 walk_at "e f s p c|hp"
 unfold settle decN wayOf
 rw [if_neg hp]
 refine oA (wayN_range f (levOf s (idx p))) fun w0 w1=> ?_
 have hw:wayN f (levOf s (idx p))=0∨wayN f (levOf s (idx p))=1∨wayN f (levOf s (idx p))=2:=by lia
 by_cases h1:levOf s (idx p) < levOf s (idx c)
 ·rw [if_pos (by lia),if_pos (.inl h1)];rfl
 ·rw [if_neg (by lia)]
  by_cases h2:levOf s (idx c) < levOf s (idx p)
  ·have h3:¬levOf s (idx p)=levOf s (idx c):=by lia
   rw [if_pos (.inl (by lia)),if_neg (by rintro (q | ⟨q,_⟩);exact h1 q;exact h3 q),if_neg (fun q=>h3 q.1)];rfl
  ·have h3:levOf s (idx p)=levOf s (idx c):=by lia
   rcases hw with h | h | h
   ·rw [h]
    rw [if_pos (.inr rfl),if_neg (by rintro (q | ⟨_,q⟩);exact h1 q;cases q),if_neg (by rintro ⟨_,q⟩;cases q)];rfl
   ·rw [h]
    rw [if_neg (by rintro (q | q);lia;exact absurd q (by decide)),if_pos (show wayS 1=[114,105,103,104,116] from rfl),if_pos (.inr ⟨h3,rfl⟩)];rfl
   ·rw [h]
    rw [if_neg (by rintro (q | q);lia;exact absurd q (by decide)),if_neg (show ¬wayS 2=[114,105,103,104,116] from by decide),if_neg (by rintro (q | ⟨_,q⟩);exact h1 q;cases q),if_pos ⟨h3,rfl⟩];rfl
theorem set_ok:SetOk (decN f s) 3 3 (waysC f s):=by
 intro n d l st p c hp hc hw hd
 rcases hp with rfl | hp
 ·exact settled_nil hd
 ·have hp0:p≠0:=by lia
  rw [←settle_dec p c hp0,pn_pos hp0]
  have w:∀ q,q=85∨q=97∨q=98→find (.str [q]) (waysC f s)=some (some (.tup [.str (wayOf f s (idx q)),.int (levOf s (idx q)+1)])):=by
   intro q hq
   rcases hq with rfl | rfl | rfl <;> rfl
  exact settled_ok hw hd (by simp) (w p hp) (w c (.inr hc))
theorem decN0 (c:Nat):decN f s 0 c=0:=rfl
end
end
section
open PySem PySem.W PyProof.Rows PySem.SeqAt
mutual
noncomputable def pyOf:T→PyData
 | .leaf c=> .str (mkS [c])
 | .node ts=> .list (pyOfs ts)
noncomputable def pyOfs:List T→List PyData
 | []=>[]
 | t::ts=>pyOf t::pyOfs ts
end
theorem sign_ok {c:Nat} (h:isSign c):(PyData.str (mkS [c])).canLay0=true:=by
 rcases h with rfl | rfl | rfl | rfl | rfl | rfl <;> decide+kernel
noncomputable def TG (t:T) (n:Nat):Prop:=(pyOf t).canLay0=true∧(pyOf t).depth≤n
theorem tg_leaf {c:Nat} (h:isSign c) (n:Nat):TG (.leaf c) n:=by
 refine ⟨?_,?_⟩
 ·exact sign_ok h
 ·exact Nat.zero_le _
theorem TG.mono {t:T} {n m:Nat} (h:TG t n) (k:n≤m):TG t m:=⟨h.1,Nat.le_trans h.2 k⟩
theorem tg_node {ts:List T} {n:Nat} (h:∀ t∈ts,TG t n):TG (.node ts) (n+1):=by
 have key:(PyData.canLayAll0 (pyOfs ts)=true)∧PyData.depthAll (pyOfs ts)≤n:=by
  induction ts with
  | nil=>exact ⟨rfl,Nat.zero_le _⟩
  | cons t ts ih=>
   refine oA (h t (Qk ..)) fun h1 h2=> ?_
   refine oA (ih fun u hu=>h u (Qj _ hu)) fun h3 h4=> ?_
   exact ⟨(Bool.and_eq_true_iff.mpr ⟨h1,h3⟩:(_ && _)=true),Nat.max_le.mpr ⟨h2,h4⟩⟩
 exact ⟨key.1,Nat.succ_le_succ key.2⟩
theorem tg3 {a b c:T} {n:Nat} (h1:TG a n) (h2:TG b n) (h3:TG c n):TG (.node [a,b,c]) (n+1):=tg_node fun u hu=>by
 rcases Zq hu with rfl | hu
 ·exact h1
 ·rcases Zq hu with rfl | hu
  ·exact h2
  ·rw [Zw hu];exact h3
theorem tg2 {a b:T} {n:Nat} (h1:TG a n) (h2:TG b n):TG (.node [a,b]) (n+1):=tg_node fun u hu=>by
 rcases Zq hu with rfl | hu
 ·exact h1
 ·rw [Zw hu];exact h2
theorem s1 {β:Type} {x:Option Nat} {A:Nat→Option β} {B r:Option β} {P:Prop} (h:(match x with | some c=>A c | none=>B)=r) (k:∀ c,x=some c→A c=r→P) (n:x=none→B=r→P):P:=by
 cases x with
 | none=>exact n rfl h
 | some c=>exact k c rfl h
theorem s2 {β:Type} {x:Option (T × Nat)} {A:T→Nat→Option β} {r:β} {P:Prop} (h:(match x with | some (t,q)=>A t q | none=>none)=some r) (k:∀ t q,x=some (t,q)→A t q=some r→P):P:=by
 cases x with
 | none=>exact nos h
 | some c=>exact k c.1 c.2 rfl h
theorem lp_good {dec:Nat→Nat→Nat} {cs:List Nat} {rdf:Nat→Nat→Option (T × Nat)} (hs:∀ c∈cs,isSign c) (IH:∀ pl p t q,rdf pl p=some (t,q)→pl < q∧TG t (q - pl)) (pl p:Nat):∀ (g:Nat) (t:T) (q:Nat),pl < q→TG t (q - pl)→∀ t' q',lp dec cs rdf p g t q=some (t',q')→pl < q'∧TG t' (q' - pl):=by
 intro g
 induction g with
 | zero=>intro t q h1 h2 t' q' h;exact nos h
 | succ g ih=>
  intro t q h1 h2 t' q' h
  rw [lp_s] at h
  refine s1 h (fun c e h=> ?_) fun e h=> ?_
  ·have hc:=hs c (Qx e)
   walk_at "n zIt h"
   ·walk_at "n zIt h"
    ·refine s2 h fun r q2 er h=> ?_
     refine oA (IH _ _ _ _ er) fun a b=> ?_
     refine ih _ q2 (Nat.lt_trans h1 (Nat.lt_of_succ_lt a)) ?_ t' q' h
     exact (tg3 (h2.mono (Nat.le_sub_one_of_lt (Nat.sub_lt_sub_right (Nat.le_of_lt h1) (Nat.lt_of_succ_lt a)))) (tg_leaf hc _) (b.mono (Nat.sub_le_sub_left (Nat.succ_le_succ (Nat.le_of_lt h1)) q2))).mono (Nat.le_of_eq (Nat.sub_add_cancel (Nat.sub_pos_of_lt (Nat.lt_trans h1 (Nat.lt_of_succ_lt a)))))
    ·walk_at "m mite h h _"
     refine e2 h ?_;exact ⟨h1,h2⟩
   ·refine e2 h ?_;exact ⟨h1,h2⟩
  ·refine e2 h ?_;exact ⟨h1,h2⟩
theorem op_good {cs:List Nat} {rdf:Nat→Nat→Option (T × Nat)} {pl q:Nat} {t:T} (IH:∀ pl p t q,rdf pl p=some (t,q)→pl < q∧TG t (q - pl)) (eo:operand cs rdf pl=some (t,q)):pl < q∧TG t (q - pl):=by
 refine s1 eo (fun c e eo=> ?_) fun e eo=> ?_
 ·walk_at "n zIt eo"
  ·refine e2 eo ?_
   exact ⟨Wz _,(tg_node (n:=0) fun u hu=>by rw [List.mem_singleton] at hu;subst hu;exact tg_leaf (.inr (.inr (.inr (.inl rfl)))) _).mono (Nat.le_of_eq (Nat.add_sub_cancel_left pl 1).symm)⟩
  ·walk_at "n zIt eo"
   ·refine s2 eo fun t2 q2 er eo=> ?_
    walk_at "m mite eo eo _"
    refine e2 eo ?_
    refine oA (IH _ _ _ _ er) fun a b=> ?_
    exact ⟨Nat.lt_succ_of_lt (Nat.lt_of_succ_lt a),(tg3 (tg_leaf (.inr (.inr (.inr (.inr (.inl rfl))))) _) b (tg_leaf (.inr (.inr (.inr (.inr (.inr rfl))))) _)).mono (y6 a)⟩
   ·walk_at "m mite eo eo _"
    refine s2 eo fun t2 q2 er eo=> ?_
    refine e2 eo ?_
    refine oA (IH _ _ _ _ er) fun a b=> ?_
    exact ⟨Nat.lt_of_succ_lt a,(tg2 (tg_leaf (.inr (.inr (.inl rfl))) _) b).mono (y7 a)⟩
 ·exact nos eo
theorem rd_good {dec:Nat→Nat→Nat} {cs:List Nat} (hs:∀ c∈cs,isSign c) (f:Nat):∀ (pl p:Nat) (t:T) (q:Nat),rd dec cs f pl p=some (t,q)→pl < q∧TG t (q - pl):=by
 induction f with
 | zero=>intro pl p t q h;exact nos h
 | succ f IH=>
  intro pl p t q h
  rw [rd_s] at h
  refine s2 h fun t1 q1 eo h=> ?_
  have op:=op_good IH eo
  exact lp_good hs IH pl p _ t1 q1 op.1 op.2 t q h
theorem due_good {dec:Nat→Nat→Nat} {cs:List Nat} (hs:∀ c∈cs,isSign c) {t:T} (h:due dec cs=some t):TG t cs.length:=by
 refine s2 h fun t' q e h=> ?_
 walk_at "m mite h h hq"
 refine e1 h ?_
 rw [←hq]
 exact (rd_good hs _ _ _ _ _ e).2
section
variable {G:Gl} {C:Cx} {W:Wd} {l:Tr AV} {st:St} {S:Shared}
theorem reads_rep (I:Inv G C W l st S) {v:AV} {t:T} {c:Value} (h:RepT st v t) (r:VRel G W v c):∃ as,Reads S.heap c (pyOf t) as:=by
 refine RepT.rec (motive_1:=fun v t uu=>∀ c,VRel G W v c→∃ as,Reads S.heap c (pyOf t) as) (motive_2:=fun vs ts uu=>∀ cs,VRels G W vs cs→∃ as,ReadsAll S.heap cs (pyOfs ts) as) (fun n c r=> ?_) (fun h uu uu ih c r=> ?_) (fun c r=> ?_) (fun uu uu i1 i2 c r=> ?_) h c r
 ·refine vStr r fun uu=> ?_
  exact ⟨_,.str _ _⟩
 ·refine vRef r fun uu r=> ?_
  refine oEEAA (I.list h r) fun vs m hg hrel uu=> ?_
  refine oE (ih _ hrel) fun as q=> ?_
  exact ⟨_,.list hg rfl rfl q⟩
 ·refine vsN r ?_
  exact ⟨_,.nil⟩
 ·cases r with
  | cons a b=>
   refine oE (i1 _ a) fun as q=> ?_
   refine oE (i2 _ b) fun bs q2=> ?_
   exact ⟨_,.cons q q2⟩
theorem eq_rep {A:Around} {E:Value→Shared→Prop} (I:Inv G C W l st S) {v1 v2:AV} {t:T} {n:Nat} {c1 c2:Value} {Q:Value→Shared→Prop} (h1:RepT st v1 t) (h2:RepT st v2 t) (r1:VRel G W v1 c1) (r2:VRel G W v2 c2) (hg:TG t n) (hu:A.units+n < cLine) (k:Q (.bool true) S):
  wpAny (model G.prog G.w) A (compareOp .Eq c1 c2) Q E S:=by
 refine oE (reads_rep I h1 r1) fun as q1=> ?_
 refine oE (reads_rep I h2 r2) fun bs q2=> ?_
 refine compareEq_reads q1 q2 hg.1 hg.1 (by have:=hg.2;lia) ?_
 rw [eqv_refl _ hg.1]
 exact k
theorem eq_non {A:Around} {E:Value→Shared→Prop} {Q:Value→Shared→Prop} {S:Shared} (hu:A.units < cLine) (k:Q (.bool true) S):wpAny (model G.prog G.w) A (compareOp .Eq .none .none) Q E S:=by
 refine compareEq_reads (da:= .none) (db:= .none) .none .none rfl rfl (by simpa [PyData.depth] using hu) ?_
 exact k
end
end
section
open PySem (Pos CmpOp Operator)
noncomputable def lawTail:List CS:=match b_l with
 | [_,_,_,_,_,_,_,_,_,_,a,b,_]=>[a,b]
 | _=>[]
theorem tail_ok {f s:Int} {st:St} {t:Tr AV} {cs:List Nat} {m:Nat} (k:FK f s st) (h3:(Lo.mk 30 t).get 3=some (.ref 3)) (h10:(Lo.mk 30 t).get 10=some (.ref m)) (hm:st.h.get m=some (.list (strs1 cs))) (hml:m < st.nx) (hl:cs.length≤15):
  ∃ t' s' tv,(EV 402).exs lawTail ⟨30,t⟩ st=some (.next,⟨30,t'⟩,s')∧Ext st s'∧(Lo.mk 30 t').get 12=some tv∧(∀ x,x≠11→x≠12→(Lo.mk 30 t').get x=(Lo.mk 30 t).get x)∧match due (decN f s) cs with
   | none=>tv= .non
   | some tr=>RepT s' tv tr:=by
 walk_at "e f s st t cs m|k h3 h10 hm hml hl"
 have nx:=k.nx
 have K:RK 3 3 m (waysC f s) cs st:=⟨ways_at k,by lia,hm,hml⟩
 refine oEEAA (read_ok (by lia) (set_ok (f:=f) (s:=s)) (cs.length+1) 0 0 (.inl rfl) (Nat.zero_le _) (by lia) 400 (12+(15 - cs.length)) ⟨30,t⟩ st (by lia) (by refine (?_:30=_);lia) K) fun v s' hc x1 hv=> ?_
 have a1:(EV 401).ev (.calG 87 ⟨771,10,771,19⟩ [.loc 3 ⟨771,20,771,24⟩,.loc 10 ⟨771,26,771,31⟩,.num 0 ⟨771,33,771,34⟩,.str 21 ⟨771,36,771,38⟩] ⟨771,10,771,39⟩) ⟨30,t⟩ st=some (v,s'):=by
  refine x_call rfl ?_ rfl rfl hc
  refine Xj (x_loc h3) (Xj (x_loc h10) (Xj x_num (Xj (x_str strs_21) Yw)))
 have K':=K.mono x1
 have other:∀ v1 v2 x,x≠11→x≠12→(Lo.mk 30 ((t.putT 11 v1).putT 12 v2)).get x=(Lo.mk 30 t).get x:=fun v1 v2 x e1 e2=>Yj e2 (Yj e1 rfl)
 have fin:∀ v2,(EV 401).ev (.ifx (.or [.cmp (.loc 11 ⟨772,19,772,22⟩) .Is (.non ⟨772,26,772,30⟩) ⟨772,19,772,30⟩,.cmp (.sub (.loc 11 ⟨772,34,772,37⟩) (.num 1 ⟨772,38,772,39⟩) ⟨772,34,772,40⟩) .NotEq (.calG 8 ⟨772,44,772,47⟩ [.loc 10 ⟨772,48,772,53⟩] ⟨772,44,772,54⟩) ⟨772,34,772,54⟩] ⟨772,19,772,54⟩) (.non ⟨772,11,772,15⟩) (.sub (.loc 11 ⟨772,60,772,63⟩) (.num 0 ⟨772,64,772,65⟩) ⟨772,60,772,66⟩) ⟨772,11,772,66⟩) ⟨30,t.putT 11 v⟩ s'=some (v2,s')→
   (EV 402).exs lawTail ⟨30,t⟩ st=some (.next,⟨30,(t.putT 11 v).putT 12 v2⟩,s'):=by
  intro v2 h
  exact Xq a1 (Xq h e_nil)
 cases e:rd (decN f s) cs (cs.length+1) 0 0 with
 | none=>
  rw [e] at hv
  subst hv
  have d:due (decN f s) cs=none:=by unfold due;rw [e]
  refine ⟨_,s',.non,fin .non ?_,x1,Zy,other _ _,?_⟩
  ·refine x_ifx (c:=true) (t_or_true (t_cmp (x_loc Zy) x_non rfl)) x_non
  ·rw [d]
 | some tq=>
  obtain ⟨tr,q⟩:=tq
  rw [e] at hv
  (refine oEAAA hv fun tv q1z rep hq0 hq=> ?_;clear hv;subst q1z)
  have t1:(EV 399).tst (.cmp (.loc 11 ⟨772,19,772,22⟩) .Is (.non ⟨772,26,772,30⟩) ⟨772,19,772,30⟩) ⟨30,t.putT 11 (.tup [tv,.int (.ofNat q)])⟩ s'=some (false,s'):=t_cmp (x_loc Zy) x_non rfl
  have ne:∀ i j:Nat,cmpV .NotEq (.int (.ofNat i)) (.int (.ofNat j)) s'=some (!decide (i=j)):=fun i j=>by
   refine (?_:some (!Nat.beq i j)=_)
   rw [Tr.beq_eq]
  have t2:(EV 399).tst (.cmp (.sub (.loc 11 ⟨772,34,772,37⟩) (.num 1 ⟨772,38,772,39⟩) ⟨772,34,772,40⟩) .NotEq (.calG 8 ⟨772,44,772,47⟩ [.loc 10 ⟨772,48,772,53⟩] ⟨772,44,772,54⟩) ⟨772,34,772,54⟩) ⟨30,t.putT 11 (.tup [tv,.int (.ofNat q)])⟩ s'=some (!decide (q=cs.length),s'):=by
   refine t_cmp (x_sub (x_loc Zy) x_num (Yz (i:=1) (by simp) rfl)) (x_len (x_loc (gg rfl h10)) K'.r (Yx (by rw [Zn];lia))) ?_
   rw [Zn]
   exact ne _ _
  by_cases hql:q=cs.length
  ·have d:due (decN f s) cs=some tr:=by unfold due;rw [e];dsimp only;rw [if_pos hql]
   refine ⟨_,s',tv,fin tv ?_,x1,Zy,other _ _,?_⟩
   ·rw [Wj hql] at t2
    refine x_ifx (c:=false) (Vj t1 (Yf t2 allT_or_nil)) (x_sub (x_loc Zy) x_num (Yz (i:=0) (by simp) rfl))
   ·rw [d];exact rep
  ·have d:due (decN f s) cs=none:=by unfold due;rw [e];dsimp only;rw [if_neg hql]
   refine ⟨_,s',.non,fin .non ?_,x1,Zy,other _ _,?_⟩
   ·rw [Wk hql] at t2
    refine x_ifx (c:=true) (Vj t1 (Uw t2)) x_non
   ·rw [d]
theorem run_chk:finChk (theRun 60)=true:=by decide+kernel
theorem bAv {x:Option AV} {A:AV→Bool} (h:(match x with | some w=>A w | none=>false)=true):∃ w,x=some w∧A w=true:=by cases x <;> first | exact fat h | exact ⟨_,rfl,h⟩
theorem bAo {x:Option AO} {A:AO→Bool} (h:(match x with | some w=>A w | none=>false)=true):∃ w,x=some w∧A w=true:=by cases x <;> first | exact fat h | exact ⟨_,rfl,h⟩
theorem bAs {x:Option AO} {A:List (Nat × AV)→Bool} (h:(match x with | some (.attrs w)=>A w | _=>false)=true):∃ w,x=some (.attrs w)∧A w=true:=by
 cases x with
 | none=>exact fat h
 | some o=>cases o <;> first | exact fat h | exact ⟨_,rfl,h⟩
theorem bTb {x:Option AO} {A:Nat→Bool} (h:(match x with | some (.tab w _)=>A w | _=>false)=true):∃ w n,x=some (.tab w n)∧A w=true:=by
 cases x with
 | none=>exact fat h
 | some o=>cases o <;> first | exact fat h | exact ⟨_,_,rfl,h⟩
theorem bFn {x:Option (Fl × Lo × St)} {A:Lo→St→Bool} (h:(match x with | some (.next,l,s)=>A l s | _=>false)=true):∃ l s,x=some (.next,l,s)∧A l s=true:=by
 rcases x with _ | ⟨fl,l,s⟩
 ·exact fat h
 ·cases fl <;> first | exact fat h | exact ⟨_,_,rfl,h⟩
theorem run_of {x:Option (Fl × Lo × St)} (h:finChk x=true):∃ l s,x=some (.next,l,s)∧l.dep=30∧562 < s.nx∧l.get 0=some (.glo 2000)∧l.get 3=some (.ref 3)∧l.get 4=some (.ref 6)∧l.get 9=some (.ref 82)∧(∀ p∈expO,s.h.get p.1=some p.2)∧(∀ q∈expA,∃ es,s.h.get q.1=some (.attrs es)∧findA q.2.1 es=some q.2.2)∧∀ k,k < 3→∃ n,s.h.get k=some (.tab k n):=by
 unfold finChk at h
 refine oEEA (bFn h) fun l s e h=> ?_
 simp only [Bool.and_eq_true,List.all_eq_true] at h
 obtain ⟨h1,h2,h3,h4,h5,h6,h7,h8,t0,t1,t2⟩:=h
 have L:∀ {x v},isL l x v=true→l.get x=some v:=fun {x v} q=>by
  refine oEA (bAv q) fun w e q=> ?_;rw [e,beqAV_eq _ _ _ q]
 refine ⟨l,s,e,Qy h1,?_,L h3,L h4,L h5,L h6,fun p hp=> ?_,fun q hq=> ?_,fun k hk=> ?_⟩
 ·rw [blt_eq] at h2;exact Qd h2
 ·refine oEA (bAo (h7 p hp)) fun w e q=> ?_;rw [e,beqAO_eq q]
 ·refine oEA (bAs (h8 q hq)) fun es e q=> ?_
  refine oEA (bAv q) fun w e2 q=> ?_
  exact ⟨es,e,by rw [e2,beqAV_eq _ _ _ q]⟩
 ·have tab:∀ k,tabIs s k=true→∃ n,s.h.get k=some (.tab k n):=fun k q=>by
   refine oEEA (bTb q) fun j n e q=> ?_
   rw [Qy q] at e
   exact ⟨n,e⟩
  have:k=0∨k=1∨k=2:=by lia
  rcases this with rfl | rfl | rfl
  ·exact tab 0 t0
  ·exact tab 1 t1
  ·exact tab 2 t2
theorem run_ok:∃ l s,theRun 60=some (.next,l,s)∧l.dep=30∧562 < s.nx∧l.get 0=some (.glo 2000)∧l.get 3=some (.ref 3)∧l.get 4=some (.ref 6)∧l.get 9=some (.ref 82)∧(∀ p∈expO,s.h.get p.1=some p.2)∧(∀ q∈expA,∃ es,s.h.get q.1=some (.attrs es)∧findA q.2.1 es=some q.2.2)∧∀ k,k < 3→∃ n,s.h.get k=some (.tab k n):=run_of run_chk
end
section
open PySem PySem.W PyProof.Rows PySem.SeqAt
section
variable {h:HP} {xs:List Int} {vs:List Value} {C:Cx} {W:Wd} {l:Lo} {st:St} {S:Shared} {A:Around} {X:Value→Shared→Prop}
noncomputable def EvS (xs:List Int):Ev:=⟨fun e l s=>match e with
 | .slc (.loc 0 _) (some (.num 2 _)) none _ _=>(match l.get 0 with
  | some (.glo k)=>(match Nat.beq k 2000 with | true=>s.new (.list ((xs.drop 2).map AV.int)) | false=>none)
  | _=>none)
 | _=>none,fun uu uu uu=>none,fun uu uu uu=>none⟩
set_option tactic.hygienic true in
theorem m198 {β:Type} {r:β} {P:Prop} {x:Option AV} {A:Nat→Option β} (h:(match x with | some (.glo a0)=>A a0 | _=>none)=some r) (k:∀ a0,A a0=some r→x=some (.glo a0)→P):P:=by walk_at "mp"
theorem evS_inv {e:CE} {l:Lo} {s:St} {r:AV × St} {P:Prop} (h:(EvS xs).ev e l s=some r) (k:∀ p1 p2 p3 p4,e= .slc (.loc 0 p1) (some (.num 2 p2)) none p3 p4→(match l.get 0 with
  | some (.glo k)=>(match Nat.beq k 2000 with | true=>s.new (.list ((xs.drop 2).map AV.int)) | false=>none)
  | _=>none)=some r→P):P:=by
 cases e with
 | slc e lo hi ps p=>
  cases e with
  | loc i=>
   cases i with
   | succ i=>exact nos h
   | zero=>
    cases lo with
    | none=>exact nos h
    | some lo=>
     cases lo with
     | num i=>
      match i,h,k with
      | 0,h,_=>exact nos h
      | 1,h,_=>exact nos h
      | 2,h,k=>
       cases hi with
       | some hi=>exact nos h
       | none=>exact k _ _ _ _ rfl h
      | i+3,h,_=>exact nos h
     | _=>exact nos h
  | _=>exact nos h
 | _=>exact nos h
theorem evS_ok (H:HOk h) (Y:Scr h xs vs):EOk (theG h) (EvS xs) where
 ev:=fun g e uu=>by
  intro C W l s S v s' Q X F R I h k
  refine evS_inv h fun p1 p2 p3 p4 e h=> ?_
  subst e
  refine m198 h fun q h hg=> ?_
  walk_at "m m12 h h q2"
  have:=Qy q2
  subst this
  exact scr_rest H Y F I hg h k
 ts:=fun g e uu=>by intro C W l s S v s' Q X F R I h k;exact nos h
theorem st_signs (H:HOk h) (Y:Scr h xs vs) (F:Env1 (theG h) C w_l) (R:Room C l.dep) (I:Inv (theG h) C W l.vs st S) (h0:l.get 0=some (.glo 2000)) {n:Nat} {v:AV} {s':St} {l':Lo}
  (hn:callFn P1 (EV n) 86 [.ref st.nx] l ⟨st.h.putT st.nx (.list ((xs.drop 2).map AV.int)),st.nx+1⟩=some (v,s')) (hl':l.set 10 v=some l') {p1 p2 p3 p4 p5 p6 p7 p8:Pos} {Q:Flow→Shared→Prop} (kk:∀ W' S',W.le W'→Inv (theG h) C W' l'.vs s' S'→Q .next S'):
  wpAny (model h.prog h.w) C.A (exec (embS (C.em (theG h)) (.asgN 10 p1 (.calG 86 p2 [.slc (.loc 0 p3) (some (.num 2 p4)) none p5 p6] p7) p8)) C.env) Q X S:=by
 walk_at "e h xs vs C W l st S X|H Y F R I h0|n v s' l'|hn hl'|p1 p2 p3 p4 p5 p6 p7 p8 Q|kk"
 have FN:=fns_ok (fnTab H) (level_ok H n)
 refine wpAny_Assign_Name ?_ rfl
 refine wpAny_Call_NameR (I.gload F.e (whole H).names (by rfl) (show (theG h).P.glob 86=some (.glo 86) from rfl) fun fv rf=> ?_)
 have rf:=vGlo rf
 refine Yd (FN 86 _ l _ _ hn) fun a o fd n1 n2 n3 n4=> ?_
 rw [rf] at n1;cases n1
 have e1:evs (fun e s=>(EvS xs).ev e l s) [.slc (.loc 0 p3) (some (.num 2 p4)) none p5 p6] st=some ([.ref st.nx],⟨st.h.putT st.nx (.list ((xs.drop 2).map AV.int)),st.nx+1⟩):=by
  refine Xj ?_ Yw
  refine (?_:(match l.get 0 with
   | some (.glo k)=>(match Nat.beq k 2000 with | true=>st.new (.list ((xs.drop 2).map AV.int)) | false=>none)
   | _=>none)=_)
  rw [h0]
  exact St.new_eq _ _
 refine Calls.callWith_function (o:=o) (fd:=fd) (Xg (evS_ok H Y) (by rfl) F.e R I e1 fun W1 S1 us le1 I1 r1=>⟨⟨I1.base _ _ n2,n3⟩,?_⟩)
 exact call_ref FN rf F.e.hand R.c I1 hn r1 fun W2 S2 vc le2 I2 r2=>Xx F I2 (by rfl) hl' r2 fun S' I'=>kk _ S' (le1.trans le2) I'
theorem st_last (H:HOk h) (F:Env1 (theG h) C w_l) (R:Room C l.dep) (I:Inv (theG h) C W l.vs st S) {n:Nat} {v tv:AV} {s':St} {d:Option T} (h12:l.get 12=some tv) {p1 p2 p3 p4 p5 p6 p7 p8:Pos}
  (he:(EV n).ev (.calG 88 p1 [.loc 4 p2,.loc 9 p3,.loc 10 p4] p5) l st=some (v,s')) (hd:match d with
   | none=>tv= .non∧v= .non
   | some tr=>RepT s' tv tr∧RepT s' v tr∧TG tr 15) {Q:Flow→Shared→Prop} (kk:∀ W' S',W.le W'→Inv (theG h) C W' l.vs s' S'→Q (.ret (.bool true)) S'):
  wpAny (model h.prog h.w) C.A (exec (embS (C.em (theG h)) (.ret (some (.cmp (.calG 88 p1 [.loc 4 p2,.loc 9 p3,.loc 10 p4] p5) .Eq (.loc 12 p6) p7)) p8)) C.env) Q X S:=by
 have hu:=R.1
 refine wpAny_Return_some (wpAny_Compare1 ((level_ok H n).ev w_l.g (.calG 88 p1 [.loc 4 p2,.loc 9 p3,.loc 10 p4] p5) (by rfl) F.e R I he fun W1 S1 ac le1 I1 r1=> ?_) (behind_emb _ _ _))
 refine I1.load F.e h12 fun bc r2=> ?_
 cases d with
 | none=>
  (refine oA hd fun q0z q1z=> ?_;clear hd;subst q0z q1z)
  refine vNon r1 ?_;refine vNon r2 ?_
  exact eq_non (G:=theG h) (by lia) (kk W1 S1 le1 I1)
 | some tr=>
  refine oAA hd fun a b c=> ?_
  exact eq_rep (G:=theG h) I1 b a r1 r2 c (by lia) (kk W1 S1 le1 I1)
end
section
variable {h:HP} {xs:List Int} {vs:List Value} {C:Cx} {W:Wd} {l:Lo} {st:St} {S:Shared} {A:Around} {X:Value→Shared→Prop}
set_option tactic.hygienic true in
theorem lo0_get (x:Nat) (v:AV) (e:lo0.vs.get x=some v):(x=0∧v= .glo 2000)∨(x=1∧v= .sym 9)∨(x=2∧v= .sym 10):=by
 walk_at "e x v|e"
 unfold lo0 at e
 dsimp only at e
 rw [Tr.get_node] at e
 walk_at "n zIt e"
 ·refine e1 e ?_;exact .inl ⟨by assumption,rfl⟩
 ·walk_at "n zIt e"
  ·rw [Tr.get_node] at e
   walk_at "n zIt e"
   ·rename_i a b c;refine e1 e ?_;exact .inr (.inl ⟨by rw [←Nat.div_add_mod x 2,c,b],rfl⟩)
   ·walk_at "n zIt e" <;> (rw [Tr.get_nil] at e;exact nos e)
  ·rw [Tr.get_node] at e
   walk_at "n zIt e"
   ·rename_i a b c;refine e1 e ?_;exact .inr (.inr ⟨by rw [Tr.half2 a b,c],rfl⟩)
   ·walk_at "n zIt e" <;> (rw [Tr.get_nil] at e;exact nos e)
theorem wfs_body:wfSs w_l lawBody=true:=by decide+kernel
theorem wfs_tail:wfSs w_l lawTail=true:=by decide+kernel
theorem okw_law:okW w_l:=List.mem_map.mpr ⟨(89,w_l),Qx (i:=29) rfl,rfl⟩
theorem Inv.low (H:HOk h) (hf:h.f=firstOf xs) (hs:h.s=secondOf xs) {t:Tr AV} (I:Inv (theG h) C W t st S) (h0:t.get 0=some (.glo 2000)) (h1:t.get 1=some (.int (firstOf xs))) (h2:t.get 2=some (.int (secondOf xs))):Inv (theG h) C W lo0.vs st S:=by
 refine I.fewer fun x v e=> ?_
 rcases lo0_get x v e with ⟨rfl,rfl⟩ | ⟨rfl,rfl⟩ | ⟨rfl,rfl⟩
 ·exact ⟨_,h0,fun cv r=>r⟩
 ·refine ⟨_,h1,fun cv r=> ?_⟩
  refine vInt r fun tk=> ?_
  exact .sym (show theRho h.f h.s 9 _ from ⟨tk,by rw [hf]⟩)
 ·refine ⟨_,h2,fun cv r=> ?_⟩
  refine vInt r fun tk=> ?_
  exact .sym (show theRho h.f h.s 10 _ from ⟨tk,by rw [hs]⟩)
theorem conc_get {f s:Int} {l:Lo} {x:Nat} {v v':AV} (e:l.get x=some v) (k:concV f s v=v'):(Lo.mk 30 (l.vs.map (concV f s))).get x=some v':=by
 refine (?_:(l.vs.map _).get x=_)
 rw [Tr.get_map,show l.vs.get x=some v from e]
 exact congrArg some k
theorem law_end (H:HOk h) (Y:Scr h xs vs) (F:Env1 (theG h) C w_l) {t:Tr AV} (R:Room C 30) (I:Inv (theG h) C W t st S) (k:FK h.f h.s st) (ht:∀ k,k < 3→∃ n,st.h.get k=some (.tab k n)) (h0:(Lo.mk 30 t).get 0=some (.glo 2000)) (h3:(Lo.mk 30 t).get 3=some (.ref 3)) (h4:(Lo.mk 30 t).get 4=some (.ref 6)) (h9:(Lo.mk 30 t).get 9=some (.ref 82)) {Q:Flow→Shared→Prop}
  (kk:∀ W' S' t' st',W.le W'→Inv (theG h) C W' t' st' S'→(∀ k,k < 3→∃ n,st'.h.get k=some (.tab k n))→Q (.ret (.bool true)) S'):
  wpAny (model h.prog h.w) C.A (execs (embSs (C.em (theG h)) (b_l.drop 9)) C.env) Q X S:=by
 walk_at "e h xs vs C W st S X|H Y F|t|R I k ht h0 h3 h4 h9|Q|kk"
 have nx:=k.nx
 have hlen:=Y.len
 refine oEEEAAAAA (row_ok (n:=0) (d:=28) (a:=st.nx) (l:=⟨30,t⟩) (s:=⟨st.h.putT st.nx (.list ((xs.drop 2).map AV.int)),st.nx+1⟩) (xs:=xs.drop 2) Zg (Wz _) (by simp;lia) rfl) fun m s1 cs c1 x1 g1 ml1 l1 sg1=> ?_
 have x0:Ext st s1:=(Ext.push st _).trans x1
 refine (?_:wpAny _ _ (execs (embS (C.em (theG h)) (.asgN 10 _ (.calG 86 _ [.slc (.loc 0 _) (some (.num 2 _)) none _ _] _) _)::embSs (C.em (theG h)) (b_l.drop 10)) C.env) _ _ _)
 rw [execs_cons]
 refine Qq (st_signs (l:=⟨30,t⟩) H Y F R I h0 c1 (Lo.set_eq _ _ _) fun W1 S1 le1 I1=> ?_)
 refine (?_:wpAny _ _ (execs (embSs (C.em (theG h)) (lawTail++b_l.drop 12)) C.env) _ _ _)
 rw [embSs_append]
 refine oEEEAAAA (tail_ok (k.mono x0) (t:=t.putT 10 (.ref m)) (Yj (by decide) h3) Zy g1 ml1 l1) fun t' s2 tv r2 x2 g12 oth hd=> ?_
 have go:∀ x v,x < 10→(Lo.mk 30 t).get x=some v→(Lo.mk 30 t').get x=some v:=fun x v hx e=>by
  rw [oth x (by lia) (by lia)]
  exact Yj (by lia) e
 refine wp_append ((level_ok H 402).ex w_l okw_law lawTail wfs_tail F (show Room C (Lo.mk 30 (t.putT 10 (.ref m))).dep from R) I1 r2 fun uu W2 S2 f le2 I2 fr=> ?_)
 cases f <;> first | exact fr.elim | skip
 refine (?_:wpAny _ _ (execs [embS (C.em (theG h)) (.ret (some (.cmp (.calG 88 _ [.loc 4 _,.loc 9 _,.loc 10 _] _) .Eq (.loc 12 _) _)) _)] C.env) _ _ _)
 rw [execs_cons]
 have x3:=x0.trans x2
 have g1':s2.h.get m=some (.list (strs1 cs)):=(x2.get m ml1).trans g1
 have ml2:m < s2.nx:=Wx ml1 x2.nx
 refine oEEAA (followed_ok (M:=0) (d:=29) (l:=⟨30,t'⟩) (s:=s2) (gr:=6) (tb:=82) (by lia) sg1 (decN0 (f:=h.f) (s:=h.s)) g1' ml2 (fun s' e=>tk_ok ((k.mono x3).mono e)) rfl) fun v s3 c3 x4 hv=> ?_
 have e4:(EV 22).ev (.calG 88 ⟨773,11,773,24⟩ [.loc 4 ⟨773,25,773,32⟩,.loc 9 ⟨773,34,773,39⟩,.loc 10 ⟨773,41,773,46⟩] ⟨773,11,773,47⟩) ⟨30,t'⟩ s2=some (v,s3):=by
  refine x_call rfl ?_ rfl rfl c3
  refine Xj (x_loc (go 4 _ (by decide) h4)) (Xj (x_loc (go 9 _ (by decide) h9)) (Xj (x_loc ?_) Yw))
  rw [oth 10 (by decide) (by decide)]
  exact Zy
 refine Qq (st_last (l:=⟨30,t'⟩) (d:=due (decN h.f h.s) cs) H F R I2 g12 e4 ?_ fun W3 S3 le3 I3=> ?_)
 ·cases e:due (decN h.f h.s) cs with
  | none=>
   rw [e] at hd hv
   exact ⟨hd,hv⟩
  | some tr=>
   rw [e] at hd hv
   exact ⟨RepT.mono x4 hd,hv,(due_good sg1 e).mono (by lia)⟩
 ·refine Qw (kk W3 S3 t' s3 (le1.trans (le2.trans le3)) I3 fun k hk=> ?_)
  refine oE (ht k hk) fun n e=> ?_
  exact ⟨n,((x3.trans x4).get k (by lia)).trans e⟩
theorem law_body (H:HOk h) (Y:Scr h xs vs) (hf:h.f=firstOf xs) (hs:h.s=secondOf xs) (F:Env1 (theG h) C w_l) {t:Tr AV} (R:Room C 30) (I:Inv (theG h) C W t st0 S) (h0:(Lo.mk 30 t).get 0=some (.glo 2000)) {Q:Flow→Shared→Prop}
  (kk:∀ W' S' t' st',W.le W'→Inv (theG h) C W' t' st' S'→(∀ k,k < 3→∃ n,st'.h.get k=some (.tab k n))→Q (.ret (.bool true)) S'):
  wpAny (model h.prog h.w) C.A (execs (embSs (C.em (theG h)) b_l) C.env) Q X S:=by
 refine (?_:wpAny _ _ (execs (embS (C.em (theG h)) (.asgN 1 _ (.ifx (.loc 0 _) (.sub (.loc 0 _) (.num 0 _) _) (.num 0 _) _) _)::embSs (C.em (theG h)) (b_l.drop 1)) C.env) _ _ _)
 rw [execs_cons]
 refine Qq (st_first (l:=⟨30,t⟩) H Y F R I h0 (Lo.set_eq _ _ _) fun S1 I1=> ?_)
 refine (?_:wpAny _ _ (execs (embS (C.em (theG h)) (.asgN 2 _ (.ifx (.cmp (.calG 8 _ [.loc 0 _] _) .Gt (.num 1 _) _) (.sub (.loc 0 _) (.num 1 _) _) (.num 0 _) _) _)::embSs (C.em (theG h)) (b_l.drop 2)) C.env) _ _ _)
 rw [execs_cons]
 refine Qq (st_second (l:=⟨30,t.putT 1 (.int (firstOf xs))⟩) H Y F R I1 (Yj (by decide) h0) (Lo.set_eq _ _ _) fun W2 S2 le2 I2=> ?_)
 refine (?_:wpAny _ _ (execs (embSs (C.em (theG h)) (lawBody++b_l.drop 9)) C.env) _ _ _)
 rw [embSs_append]
 have I3:Inv (theG h) C W2 lo0.vs st0 S2:=I2.low H hf hs (Yj (by decide) (Yj (by decide) h0)) (Yj (by decide) Zy) Zy
 obtain ⟨l,s,r,hd,nx,g0,g3,g4,g9,ho,ha,ht⟩:=run_ok
 refine wp_append ((level_ok H 60).ex w_l okw_law lawBody wfs_body F (show Room C lo0.dep from R) I3 r fun uu W3 S3 f le3 I4 fr=> ?_)
 cases f <;> first | exact fr.elim | skip
 have I5:=I4.conc (spec0 (h:=h))
 refine law_end H Y F R I5 (fk_run nx ho ha) (fun k hk=> ?_) (conc_get g0 rfl) (conc_get g3 rfl) (conc_get g4 rfl) (conc_get g9 rfl) fun W4 S4 t4 st4 le4 I6 q=>kk W4 S4 t4 st4 (le2.trans (le3.trans le4)) I6 q
 refine oE (ht k hk) fun n e=> ?_
 refine ⟨n,?_⟩
 refine (?_:(s.h.map _).get k=_)
 rw [Tr.get_map,e];rfl
end
end
section
open PySem PySem.W PyProof.Rows PySem.SeqAt PySem.W.X
noncomputable def noTab (x:Addr × Obj):Bool:= !(Nat.beq x.1 50 || (Nat.beq x.1 371 || Nat.beq x.1 378))
theorem noTab_spec {a:Addr} {o:Obj}:noTab (a,o)=true ↔ a≠50∧a≠371∧a≠378:=by
 unfold noTab
 simp only [Tr.beq_eq,Bool.not_eq_true',Bool.or_eq_false_iff,decide_eq_false_iff_not]
theorem lookup_noTab {a:Addr} {o:Obj}:∀ {K:Frag},(K.filter noTab).lookup a=some o→K.lookup a=some o∧a≠50∧a≠371∧a≠378
 | [],h=>by exact nos h
 | (b,ob)::K,h=>by
  rw [List.filter_cons] at h
  rw [List.lookup_cons]
  by_cases q:noTab (b,ob)=true
  ·rw [if_pos q,List.lookup_cons] at h
   cases e:a==b with
   | true=>
    rw [e] at h
    have e:=eq_of_beq e
    subst e
    exact ⟨h,noTab_spec.mp q⟩
   | false=>
    rw [e] at h
    exact lookup_noTab h
  ·rw [if_neg q] at h
   refine oA (lookup_noTab h) fun h1 h2=> ?_
   have:(a==b)=false:=by
    rw [beq_eq_false_iff_ne]
    rintro rfl
    exact q (noTab_spec.mpr h2)
   rw [this]
   exact ⟨h1,h2⟩
noncomputable def cutH (h:Heap) (a:Addr):Heap:=h.update a fun o=> { o with data:= .freed }
set_option backward.match.sparseCases true in
theorem cut_get (h:Heap) (a b:Addr):(cutH h a).get? b=if b=a then none else h.get? b:=by
 obtain ⟨objs,l⟩:=h
 refine (?_:(match (objs.modify a fun o=> { o with data:= .freed })[b]? with
  | some ⟨_,_,.freed,_⟩=>none
  | o=>o)=_)
 rw [Array.getElem?_modify]
 by_cases e:b=a
 ·subst e
  rw [if_pos rfl,if_pos rfl]
  cases objs[b]? <;> rfl
 ·rw [if_neg e,if_neg (Ne.symm e)];rfl
noncomputable def cut3 (h:Heap):Heap:=cutH (cutH (cutH h 50) 371) 378
theorem cut3_get (h:Heap) (b:Addr):(cut3 h).get? b=if b=50∨b=371∨b=378 then none else h.get? b:=by
 unfold cut3
 rw [cut_get,cut_get,cut_get]
 by_cases h1:b=378
 ·rw [if_pos h1,if_pos (.inr (.inr h1))]
 ·rw [if_neg h1]
  by_cases h2:b=371
  ·rw [if_pos h2,if_pos (.inr (.inl h2))]
  ·rw [if_neg h2]
   by_cases h3:b=50
   ·rw [if_pos h3,if_pos (.inl h3)]
   ·rw [if_neg h3,if_neg (by rintro (q | q | q);exact h3 q;exact h2 q;exact h1 q)]
theorem cut3_of {h:Heap} {b:Addr} {o:Obj} (e:(cut3 h).get? b=some o):h.get? b=some o:=by
 rw [cut3_get] at e
 walk_at "n zIt e"
 ·exact nos e
 ·exact e
theorem cut3_to {h:Heap} {b:Addr} {o:Obj} (e:h.get? b=some o) (k:¬(b=50∨b=371∨b=378)):(cut3 h).get? b=some o:=by rw [cut3_get,if_neg k];exact e
theorem cut3_ns {h:Heap} {a:Addr} {m:Str→Option Value} (n:h.Ns a m) (k:¬(a=50∨a=371∨a=378)):(cut3 h).Ns a m:=by
 refine oEEEA n fun o es ep e r=> ?_
 exact ⟨o,es,ep,cut3_to e k,r⟩
theorem tabT_cases (t:Nat):tabT t=50∨tabT t=371∨tabT t=378:=by
 rcases t with _ | _ | t
 ·exact .inl rfl
 ·exact .inr (.inl rfl)
 ·exact .inr (.inr rfl)
theorem ints_rel {G:Gl} {vs:List Value} {xs:List Int} (h:IntsAre vs xs) (W:Wd):VRels G W (xs.map AV.int) vs:=by
 induction h with
 | nil=>exact .nil
 | cons n t h ih=>exact .cons (.int n t) ih
noncomputable def hpOf (prog:Program) (w:World) (K:Frag) (S:Shared) (xs:List Int):HP:=⟨prog,w,cut3 S.heap,K.filter noTab,firstOf xs,secondOf xs,S.gens,S.drawn,S.os⟩
structure Start (K:Frag) (S:Shared) (mg mb:Str→Option Value) (xs:List Int) (vs:List Value):Prop where
 kin:K.In S.heap
 kf:KF (K.filter noTab)
 tab:∀ t,K.lookup (tabT t)=some (tabObj #[])
 g:S.heap.Ns mainGlobals mg
 b:S.heap.Ns builtinsNs mb
 lim:S.heap.NoLimit
 scr:S.heap.get? 462=some { cls:= .type "list",data:= .seq vs.toArray }
 iv:IntsAre vs xs
 len:xs.length≤63
section
variable {prog:Program} {w:World} {K:Frag} {S:Shared} {mg mb:Str→Option Value} {xs:List Int} {vs:List Value}
theorem hok (Z:Start K S mg mb xs vs):HOk (hpOf prog w K S xs) where
 kin:=fun a o e=>by
  refine oAAA (lookup_noTab e) fun h1 h2 h3 h4=> ?_
  exact cut3_to (Z.kin a o h1) (by rintro (q | q | q);exact h2 q;exact h3 q;exact h4 q)
 kf:=Z.kf
 mg:=⟨mg,cut3_ns Z.g (by decide)⟩
 mb:=⟨mb,cut3_ns Z.b (by decide)⟩
 lim:=by
  refine oEA (Z.lim) fun mc h1 h2=> ?_
  exact ⟨mc,cut3_ns h1 (by decide),h2⟩
 tab:=fun t=>by
  refine (?_:(cut3 S.heap).get? _=none)
  rw [cut3_get,if_pos (tabT_cases t)]
theorem scr_of (Z:Start K S mg mb xs vs):Scr (hpOf prog w K S xs) xs vs:=
 ⟨⟨_,cut3_to Z.scr (by decide)⟩,ints_rel Z.iv,Z.len⟩
end
section
variable {prog:Program} {w:World} {K:Frag} {S:Shared} {mg mb:Str→Option Value} {xs:List Int} {vs:List Value}
noncomputable def sig0:List Addr:=[50,371,378]
theorem sig0_at {k:Nat} (h:k < 3):sig0[k]? =some (tabT k):=by
 have:k=0∨k=1∨k=2:=by lia
 rcases this with rfl | rfl | rfl <;> rfl
theorem sig0_mem {a:Addr} (h:a∈sig0):∃ k,k < 3∧a=tabT k:=by
 unfold sig0 at h
 simp only [List.mem_cons,List.not_mem_nil,or_false] at h
 rcases h with rfl | rfl | rfl
 ·exact ⟨0,by decide,rfl⟩
 ·exact ⟨1,by decide,rfl⟩
 ·exact ⟨2,by decide,rfl⟩
theorem st0_get {n:Nat} {o:AO} (e:st0.h.get n=some o):n < 3∧o= .tab n 0:=by
 walk_at "e n o|e"
 unfold st0 tr3 at e
 dsimp only at e
 rw [Tr.get_node] at e
 walk_at "n zIt e"
 ·refine e1 e ?_;subst n;exact ⟨by decide,rfl⟩
 ·walk_at "n zIt e"
  ·rw [Tr.get_node] at e
   walk_at "n zIt e"
   ·have:n=1:=by lia
    subst this;refine e1 e ?_;exact ⟨by decide,rfl⟩
   ·walk_at "n zIt e" <;> (rw [Tr.get_nil] at e;exact nos e)
  ·rw [Tr.get_node] at e
   walk_at "n zIt e"
   ·have:n=2:=by lia
    subst this;refine e1 e ?_;exact ⟨by decide,rfl⟩
   ·walk_at "n zIt e" <;> (rw [Tr.get_nil] at e;exact nos e)
theorem code_tab (prog:Program) (w:World) (Z:Start K S mg mb xs vs):∀ k,k < 3→isCodeTable S.heap (tabT k):=by
 have H:=hok (prog:=prog) (w:=w) Z
 have use:∀ {c b:Addr} {o:Obj} {us:Array Value},(K.filter noTab).lookup c=some o→o.cls= .type "code" →o.data= .fields us→us[11]? =some (.ref b)→isCodeTable S.heap b:=fun {c b o us} h1 h2 h3 h4=>⟨c,o,us,cut3_of (H.kin _ _ h1),h2,h3,h4⟩
 intro k hk
 have:k=0∨k=1∨k=2:=by lia
 rcases this with rfl | rfl | rfl
 ·obtain ⟨o,us,_,_,_,_,_,_,_,q1,q2,q3,q4,_⟩:=Vk H.kf.tab_hd0
  exact use q1 q2 q3 q4
 ·obtain ⟨o,us,_,_,_,_,_,_,_,q1,q2,q3,q4,_⟩:=Vk H.kf.tab_hd1
  exact use q1 q2 q3 q4
 ·obtain ⟨o,us,_,_,_,_,_,_,_,q1,q2,q3,q4,_⟩:=Vk H.kf.tab_hd2
  exact use q1 q2 q3 q4
theorem tab_at (Z:Start K S mg mb xs vs) (t:Nat):S.heap.get? (tabT t)=some (tabObj #[]):=Z.kin _ _ (Z.tab t)
theorem old_of (Z:Start K S mg mb xs vs) {C:Cx} {W:Wd} {t:Tr AV} {st:St} {S':Shared} (le:Wd.le ⟨sig0,[]⟩ W) (I:Inv (theG (hpOf prog w K S xs)) C W t st S') (ht:∀ k,k < 3→∃ n,st.h.get k=some (.tab k n)):OldK S.heap S'.heap:=by
 have H:=hok (prog:=prog) (w:=w) Z
 have tabs:∀ k,k < 3→∃ ps,S'.heap.get? (tabT k)=some (tabObj ps):=fun k hk=>by
  refine oE (ht k hk) fun n e=> ?_
  obtain ⟨a,co,h1,h2,h3,h4⟩:=I.objs k _ e
  (refine oEA h4 fun ps q1z uu=> ?_;clear h4;subst q1z)
  have:=le.σ k _ (sig0_at hk)
  rw [this] at h1;(obtain rfl:=Qz h1)
  exact ⟨ps,h2⟩
 have cases3:∀ b:Addr,(∃ k,k < 3∧b=tabT k)∨¬(b=50∨b=371∨b=378):=fun b=>by
  by_cases q:b=50∨b=371∨b=378
  ·left
   rcases q with rfl | rfl | rfl
   ·exact ⟨0,by decide,rfl⟩
   ·exact ⟨1,by decide,rfl⟩
   ·exact ⟨2,by decide,rfl⟩
  ·exact .inr q
 refine ⟨fun b o e=> ?_,fun b o e=> ?_⟩
 ·rcases cases3 b with ⟨k,hk,rfl⟩ | q
  ·refine oE (tabs k hk) fun ps e2=> ?_
   rw [tab_at Z k] at e
   refine e1 e ?_
   exact .inr (.inl ⟨code_tab prog w Z k hk,rfl,#[],ps,rfl,by rw [e2];simp [tabObj]⟩)
  ·exact .inl (I.base b o (cut3_to e q))
 ·rcases cases3 b with ⟨k,hk,rfl⟩ | q
  ·refine oE (tabs k hk) fun ps e2=> ?_
   exact ⟨_,e2⟩
  ·exact ⟨o,I.base b o (cut3_to e q)⟩
theorem law_call (Z:Start K S mg mb xs vs) {Q:Value→Shared→Prop} {X:Value→Shared→Prop} (kk:∀ S',OldK S.heap S'.heap→S'.os=S.os→S'.gens=S.gens→Q (.bool true) S'):
  wpAny (model prog w) callerA (call (.ref 461) [.ref 462]) Q X S:=by
 walk_at "e prog w K S mg mb xs vs|Z|Q X|kk"
 have H:=hok (prog:=prog) (w:=w) Z
 have Y:=scr_of (prog:=prog) (w:=w) Z
 have T:FnAt (theG (hpOf prog w K S xs)) f_l (fdOf (hpOf prog w K S xs).K 461) w_l.ln w_l:=fnAt_of rfl rfl rfl rfl H.kf.fk_l fs_l (lt_iff rfl) (bind_of H.kf.fb_l rfl)
 refine oEA (fdOf_spec H.kf.fk_l.fn) fun o e1 e2=> ?_
 have e3:S.heap.get? 461=some o:=cut3_of (H.kin _ _ e1)
 have hcd:=Vf H.kin H.kf.fk_l.rc
 have hcd':S.heap.CodeRec (fdOf (hpOf prog w K S xs).K 461).code (fdOf (hpOf prog w K S xs).K 461).qualname:=by
  refine oEEEEAA hcd fun c o us t q1 q2 q3=> ?_;exact ⟨c,o,us,t,q1,cut3_of q2,q3⟩
 have vr:VRels (theG (hpOf prog w K S xs)) ⟨sig0,[]⟩ [.glo 2000] [.ref 462]:= .cons (.glo rfl) .nil
 refine oEA (T.bind (S:=S) (args:=[.glo 2000]) (args':=[.glo 2000]) rfl rfl vr (fun b o e=>cut3_of e)) fun us hus hb=> ?_
 have ul:=hus.length
 have ht:bindP 0 [AV.glo 2000] .nil=some (Tr.nil.putT 0 (.glo 2000)):=by rw [Xz,Yn]
 refine wpAny_call (codeAny_call_def (by decide) e3 e2 Z.lim hcd' T.body hb T.cell (fun x hx=> ?_) (fun h₀ hn hk=> ?_) T.co T.gen T.kind)
 ·have:=(List.of_mem_zip hx).1
  refine oEA (List.mem_map.mp this) fun nm hnm e=> ?_
  rw [←e];exact (T.loc nm (List.mem_of_mem_take hnm)).1
 ·have old:∀ {b:Addr} {o:Obj},S.heap.get? b=some o→b≠S.heap.objs.size:=fun {b o} e q=>by rw [q,Xw] at e;exact nos e
  let C:Cx:=⟨callerA.deeper (callEnv (fdOf (hpOf prog w K S xs).K 461) S.heap.objs.size 461),callEnv (fdOf (hpOf prog w K S xs).K 461) S.heap.objs.size 461,w_l.ln,[],fun uu=>none,w_l.root⟩
  have J:Inv (theG (hpOf prog w K S xs)) C ⟨sig0,[]⟩ (Tr.nil.putT 0 (.glo 2000)) st0 { S with heap:=h₀,toks:=S.toks+(((w_l.ln.take f_l.n).map Str.ofString).zip us).length }:=by
   refine ⟨fun b o e=>hk b o (cut3_of e),fun p hp=>(nomatch hp),fun p hp=>(nomatch hp),fun p hp=>(nomatch hp),fun p hp=>(nomatch hp),List.nodup_nil,fun n o e=> ?_,rfl,(by decide:sig0.Nodup),fun a ha=> ?_,⟨_,hn,fun x v e=> ?_⟩,?_,rfl,rfl,rfl⟩
   ·(refine oA (st0_get e) fun hk3 q1z=> ?_;subst q1z)
    exact ⟨tabT n,tabObj #[],sig0_at hk3,hk _ _ (tab_at Z n),sig0_at hk3,#[],rfl,trivial,rfl⟩
   ·(refine oEA (sig0_mem ha) fun k hk3 q2z=> ?_;subst q2z)
    exact ⟨H.tab k,old (tab_at Z k),_,hk _ _ (tab_at Z k)⟩
   ·have e:=bindP_nil ht e
    refine oEA (hus.get e) fun cv c1 c2=> ?_
    have hx:x < 1:=(Wn e).1
    have hx0:x=0:=by lia
    subst hx0
    refine ⟨"script",cv,rfl,?_,c2⟩
    cases hus with
    | cons a b=>
     refine vsN b ?_
     cases c1
     rfl
   ·refine (?_:(cut3 S.heap).get? S.heap.objs.size=none)
    rw [cut3_get,Xw];split <;> rfl
  have E1:Env1 (theG (hpOf prog w K S xs)) C w_l:=by
   refine ⟨⟨T.kind,fun x nm e=>(T.loc nm (Qx e)).1,fun x nm e=>(T.loc nm (Qx e)).2,T.nd,T.glo,T.gl,T.bl,⟨rfl,[],rfl,rfl,T.kind,fun e he=>(nomatch he),rfl⟩⟩,rfl,T.code,T.lnw,fun x nm e q=>absurd (T.all x (by rw [T.lnw];exact (Wn e).1)) (by rw [q];exact Wv),fun x e=>⟨rfl,?_⟩⟩
   exact ⟨_,Qu (T.slot x e)⟩
  have Rm:Room C 30:=⟨(show 4+3+16 * 30+40≤cLine from by decide),(show 1+claimMargin+1+4 * 30+4≤recursionLimit from by decide)⟩
  exact law_body H Y rfl rfl E1 Rm J Zy fun W' S' t' st' le I' q=>kk S' (old_of Z le I' q) I'.os I'.gens
end
end
section
open PySem PySem.W PyProof.Rows PySem.SeqAt PySem.Challenge
noncomputable def fragL:Nat→List Obj→Frag
 | _,[]=>[]
 | n,o::r=>(n,o)::fragL (n+1) r
noncomputable def hOf:Option (Shared × SharedT)→Heap
 | some x=>x.2.abs.heap
 | none=>default
noncomputable def heapW (w:World):Heap:=hOf (finQ pw_kg0024_02 w 6700)
theorem y8 {a m:Nat} {P:Prop} (h:a≤m) (k:m=a→P) (l:a+1≤m→P):P:=(Nat.eq_or_lt_of_le h).elim (fun q=>k q.symm) l
noncomputable def KW (w:World):Frag:=fragL 0 (heapW w).objs.toList
theorem kw_ok (w:World):((finQ pw_kg0024_02 w 6700).map (fun x=>(chkOf pw_kg0024_02 x.1 x.2.abs,openSeen q0 loose0 (importedModules pw_kg0024_02.main.body) (fun uu=>true) true x.2.abs))=some (true,openGood q0 loose0)∧(heapW w).objs.size=462)∧
  KF ((KW w).filter noTab)∧((heapW w).objs.toList.all fun o=>o.alive)=true∧(∀ t,(KW w).lookup (tabT t)=some (tabObj #[])):=by
 refine ⟨⟨by kernel_rfl,by kernel_rfl⟩,{
  chk_all:=by kernel_rfl
  fk_Pi:=by refine ⟨⟨?_,?_,?_,?_,?_,?_⟩,?_⟩ <;> kernel_rfl
  fk_Pl:=by refine ⟨⟨?_,?_,?_,?_,?_,?_⟩,?_⟩ <;> kernel_rfl
  fb_Pl:=⟨show ∀ v0,bindArgs (fdOf _ 76) ⟨[v0],[]⟩=pure (zipN f_Pl w_Pl [v0]) from fun v0=>by kernel_rfl⟩
  fk_Ii:=by refine ⟨⟨?_,?_,?_,?_,?_,?_⟩,?_⟩ <;> kernel_rfl
  fb_Ii:=⟨show ∀ v0 v1 v2,bindArgs (fdOf _ 104) ⟨[v0,v1,v2],[]⟩=pure (zipN f_Ii w_Ii [v0,v1,v2]) from fun v0 v1 v2=>by kernel_rfl⟩
  fk_rt:=by refine ⟨⟨?_,?_,?_,?_,?_,?_⟩,?_⟩ <;> kernel_rfl
  fb_rt:=⟨show ∀ v0 v1,bindArgs (fdOf _ 132) ⟨[v0,v1],[]⟩=pure (zipN f_rt w_rt [v0,v1]) from fun v0 v1=>by kernel_rfl⟩
  fk_Gi:=by refine ⟨⟨?_,?_,?_,?_,?_,?_⟩,?_⟩ <;> kernel_rfl
  fb_Gi:=⟨show ∀ v0 v1,bindArgs (fdOf _ 158) ⟨[v0,v1],[]⟩=pure (zipN f_Gi w_Gi [v0,v1]) from fun v0 v1=>by kernel_rfl⟩
  fk_Gsp:=by refine ⟨⟨?_,?_,?_,?_,?_,?_⟩,?_⟩ <;> kernel_rfl
  fb_Gsp:=⟨show ∀ v0 v1 v2 v3,bindArgs (fdOf _ 179) ⟨[v0,v1,v2,v3],[]⟩=pure (zipN f_Gsp w_Gsp [v0,v1,v2,v3]) from fun v0 v1 v2 v3=>by kernel_rfl⟩
  fk_Gap:=by refine ⟨⟨?_,?_,?_,?_,?_,?_⟩,?_⟩ <;> kernel_rfl
  fk_Gss:=by refine ⟨⟨?_,?_,?_,?_,?_,?_⟩,?_⟩ <;> kernel_rfl
  fk_Gup:=by refine ⟨⟨?_,?_,?_,?_,?_,?_⟩,?_⟩ <;> kernel_rfl
  fb_Gup:=⟨show ∀ v0,bindArgs (fdOf _ 237) ⟨[v0],[]⟩=pure (zipN f_Gup w_Gup [v0]) from fun v0=>by kernel_rfl⟩
  fk_Gf:=by refine ⟨⟨?_,?_,?_,?_,?_,?_⟩,?_⟩ <;> kernel_rfl
  fb_Gf:=⟨show ∀ v0 v1,bindArgs (fdOf _ 244) ⟨[v0,v1],[]⟩=pure (zipN f_Gf w_Gf [v0,v1]) from fun v0 v1=>by kernel_rfl⟩
  fk_Gcfx:=by refine ⟨⟨?_,?_,?_,?_,?_,?_⟩,?_⟩ <;> kernel_rfl
  fb_Gcfx:=⟨show ∀ v0,bindArgs (fdOf _ 251) ⟨[v0],[]⟩=pure (zipN f_Gcfx w_Gcfx [v0]) from fun v0=>by kernel_rfl⟩
  fk_Gcf:=by refine ⟨⟨?_,?_,?_,?_,?_,?_⟩,?_⟩ <;> kernel_rfl
  fk_Gbl:=by refine ⟨⟨?_,?_,?_,?_,?_,?_⟩,?_⟩ <;> kernel_rfl
  fb_Gbl:=⟨show ∀ v0,bindArgs (fdOf _ 266) ⟨[v0],[]⟩=pure (zipN f_Gbl w_Gbl [v0]) from fun v0=>by kernel_rfl⟩
  fk_d:=by refine ⟨⟨?_,?_,?_,?_,?_,?_⟩,?_⟩ <;> kernel_rfl
  fb_d:=⟨show ∀ v0 v1 v2,bindArgs (fdOf _ 280) ⟨[v0,v1,v2],[]⟩=pure (zipN f_d w_d [v0,v1,v2]) from fun v0 v1 v2=>by kernel_rfl⟩
  fk_t:=by refine ⟨⟨?_,?_,?_,?_,?_,?_⟩,?_⟩ <;> kernel_rfl
  fb_t:=⟨show ∀ v0 v1 v2 v3 v4 v5 v6,bindArgs (fdOf _ 287) ⟨[v0,v1,v2,v3,v4,v5,v6],[]⟩=pure (zipN f_t w_t [v0,v1,v2,v3,v4,v5,v6]) from fun v0 v1 v2 v3 v4 v5 v6=>by kernel_rfl⟩
  fk_Li:=by refine ⟨⟨?_,?_,?_,?_,?_,?_⟩,?_⟩ <;> kernel_rfl
  fb_Li:=⟨show ∀ v0 v1,bindArgs (fdOf _ 313) ⟨[v0,v1],[]⟩=pure (zipN f_Li w_Li [v0,v1]) from fun v0 v1=>by kernel_rfl⟩
  fk_Llc:=by refine ⟨⟨?_,?_,?_,?_,?_,?_⟩,?_⟩ <;> kernel_rfl
  fb_Llc:=⟨show ∀ v0 v1,bindArgs (fdOf _ 320) ⟨[v0,v1],[]⟩=pure (zipN f_Llc w_Llc [v0,v1]) from fun v0 v1=>by kernel_rfl⟩
  fk_Llg:=by refine ⟨⟨?_,?_,?_,?_,?_,?_⟩,?_⟩ <;> kernel_rfl
  fb_Llg:=⟨show ∀ v0 v1 v2,bindArgs (fdOf _ 327) ⟨[v0,v1,v2],[]⟩=pure (zipN f_Llg w_Llg [v0,v1,v2]) from fun v0 v1 v2=>by kernel_rfl⟩
  fk_Lli:=by refine ⟨⟨?_,?_,?_,?_,?_,?_⟩,?_⟩ <;> kernel_rfl
  fb_Lli:=⟨show ∀ v0,bindArgs (fdOf _ 334) ⟨[v0],[]⟩=pure (zipN f_Lli w_Lli [v0]) from fun v0=>by kernel_rfl⟩
  fk_Lcnn:=by refine ⟨⟨?_,?_,?_,?_,?_,?_⟩,?_⟩ <;> kernel_rfl
  fb_Lcnn:=⟨show ∀ v0,bindArgs (fdOf _ 341) ⟨[v0],[]⟩=pure (zipN f_Lcnn w_Lcnn [v0]) from fun v0=>by kernel_rfl⟩
  fk_Lfnt:=by refine ⟨⟨?_,?_,?_,?_,?_,?_⟩,?_⟩ <;> kernel_rfl
  fb_Lfnt:=⟨show ∀ v0 v1,bindArgs (fdOf _ 348) ⟨[v0,v1],[]⟩=pure (zipN f_Lfnt w_Lfnt [v0,v1]) from fun v0 v1=>by kernel_rfl⟩
  fk_Ldr:=by refine ⟨⟨?_,?_,?_,?_,?_,?_⟩,?_⟩ <;> kernel_rfl
  fb_Ldr:=⟨show ∀ v0 v1 v2 v3,bindArgs (fdOf _ 355) ⟨[v0,v1,v2,v3],[]⟩=pure (zipN f_Ldr w_Ldr [v0,v1,v2,v3]) from fun v0 v1 v2 v3=>by kernel_rfl⟩
  fk_Lrr:=by refine ⟨⟨?_,?_,?_,?_,?_,?_⟩,?_⟩ <;> kernel_rfl
  fb_Lrr:=⟨show ∀ v0 v1 v2 v3,bindArgs (fdOf _ 362) ⟨[v0,v1,v2,v3],[]⟩=pure (zipN f_Lrr w_Lrr [v0,v1,v2,v3]) from fun v0 v1 v2 v3=>by kernel_rfl⟩
  fk_Lcli:=by refine ⟨⟨?_,?_,?_,?_,?_,?_⟩,?_⟩ <;> kernel_rfl
  fb_Lcli:=⟨show ∀ v0 v1 v2 v3,bindArgs (fdOf _ 369) ⟨[v0,v1,v2,v3],[]⟩=pure (zipN f_Lcli w_Lcli [v0,v1,v2,v3]) from fun v0 v1 v2 v3=>by kernel_rfl⟩
  fk_Lcrs:=⟨⟨by kernel_rfl,by kernel_rfl,by kernel_rfl,by kernel_rfl,by kernel_rfl,by kernel_rfl⟩,fun L=>by kernel_rfl,by kernel_rfl,by kernel_rfl⟩
  fb_Lcrs:=⟨show ∀ v0 v1 v2 v3,bindArgs (fdOf _ 376) ⟨[v0,v1,v2,v3],[]⟩=pure (zipN f_Lcrs w_Lcrs [v0,v1,v2,v3]) from fun v0 v1 v2 v3=>by kernel_rfl⟩
  fk_Lcfs:=⟨⟨by kernel_rfl,by kernel_rfl,by kernel_rfl,by kernel_rfl,by kernel_rfl,by kernel_rfl⟩,fun L=>by kernel_rfl,by kernel_rfl,by kernel_rfl⟩
  fb_Lcfs:=⟨show ∀ v0 v1 v2 v3,bindArgs (fdOf _ 383) ⟨[v0,v1,v2,v3],[]⟩=pure (zipN f_Lcfs w_Lcfs [v0,v1,v2,v3]) from fun v0 v1 v2 v3=>by kernel_rfl⟩
  fk_Lal:=by refine ⟨⟨?_,?_,?_,?_,?_,?_⟩,?_⟩ <;> kernel_rfl
  fb_Lal:=⟨show ∀ v0 v1 v2,bindArgs (fdOf _ 390) ⟨[v0,v1,v2],[]⟩=pure (zipN f_Lal w_Lal [v0,v1,v2]) from fun v0 v1 v2=>by kernel_rfl⟩
  fk_Lall:=by refine ⟨⟨?_,?_,?_,?_,?_,?_⟩,?_⟩ <;> kernel_rfl
  fb_Lall:=⟨show ∀ v0 v1,bindArgs (fdOf _ 397) ⟨[v0,v1],[]⟩=pure (zipN f_Lall w_Lall [v0,v1]) from fun v0 v1=>by kernel_rfl⟩
  fk_Llpt:=by refine ⟨⟨?_,?_,?_,?_,?_,?_⟩,?_⟩ <;> kernel_rfl
  fb_Llpt:=⟨show ∀ v0,bindArgs (fdOf _ 404) ⟨[v0],[]⟩=pure (zipN f_Llpt w_Llpt [v0]) from fun v0=>by kernel_rfl⟩
  fk_l:=by refine ⟨⟨?_,?_,?_,?_,?_,?_⟩,?_⟩ <;> kernel_rfl
  fb_l:=⟨show ∀ v0,bindArgs (fdOf _ 461) ⟨[v0],[]⟩=pure (zipN f_l w_l [v0]) from fun v0=>by kernel_rfl⟩
  fk_lsx:=by refine ⟨⟨?_,?_,?_,?_,?_,?_⟩,?_⟩ <;> kernel_rfl
  fb_lsx:=⟨show bindArgs (fdOf _ 426) ⟨[],[]⟩=pure (zipN f_lsx w_lsx []) from by kernel_rfl⟩
  fk_lrx:=by refine ⟨⟨?_,?_,?_,?_,?_,?_⟩,?_⟩ <;> kernel_rfl
  fb_lrx:=⟨show ∀ v0,bindArgs (fdOf _ 433) ⟨[v0],[]⟩=pure (zipN f_lrx w_lrx [v0]) from fun v0=>by kernel_rfl⟩
  fk_ls:=by refine ⟨⟨?_,?_,?_,?_,?_,?_⟩,?_⟩ <;> kernel_rfl
  fb_ls:=⟨show ∀ v0 v1 v2,bindArgs (fdOf _ 440) ⟨[v0,v1,v2],[]⟩=pure (zipN f_ls w_ls [v0,v1,v2]) from fun v0 v1 v2=>by kernel_rfl⟩
  fk_lr:=by refine ⟨⟨?_,?_,?_,?_,?_,?_⟩,?_⟩ <;> kernel_rfl
  fb_lr:=⟨show ∀ v0 v1 v2 v3,bindArgs (fdOf _ 447) ⟨[v0,v1,v2,v3],[]⟩=pure (zipN f_lr w_lr [v0,v1,v2,v3]) from fun v0 v1 v2 v3=>by kernel_rfl⟩
  fk_lf:=by refine ⟨⟨?_,?_,?_,?_,?_,?_⟩,?_⟩ <;> kernel_rfl
  fb_lf:=⟨show ∀ v0 v1 v2,bindArgs (fdOf _ 454) ⟨[v0,v1,v2],[]⟩=pure (zipN f_lf w_lf [v0,v1,v2]) from fun v0 v1 v2=>by kernel_rfl⟩
  d_Pi:=by
    intro m h1 h2
    have:m=4∨m=5∨m=6∨m=7∨m=8:=y8 h1 .inl fun h=> .inr (y8 h .inl fun h=> .inr (y8 h .inl fun h=> .inr (y8 h .inl fun h=> .inr (Nat.le_antisymm h2 h))))
    rcases this with rfl | rfl | rfl | rfl | rfl
    ·exact (show ∀ v0 v1 v2 v3,∀ st:Setting,PySem.W.peek _ st (bindArgs (fdOf _ 55) ⟨[v0,v1,v2,v3],[]⟩)=some (zipN f_Pi w_Pi ([v0,v1,v2,v3]++([.ref 47,.none,.str "" 242,.int 0 243]:List Value).drop (4 - (8 - 4)))) from fun v0 v1 v2 v3 st=>by kernel_rfl)
    ·exact (show ∀ v0 v1 v2 v3 v4,∀ st:Setting,PySem.W.peek _ st (bindArgs (fdOf _ 55) ⟨[v0,v1,v2,v3,v4],[]⟩)=some (zipN f_Pi w_Pi ([v0,v1,v2,v3,v4]++([.ref 47,.none,.str "" 242,.int 0 243]:List Value).drop (5 - (8 - 4)))) from fun v0 v1 v2 v3 v4 st=>by kernel_rfl)
    ·exact (show ∀ v0 v1 v2 v3 v4 v5,∀ st:Setting,PySem.W.peek _ st (bindArgs (fdOf _ 55) ⟨[v0,v1,v2,v3,v4,v5],[]⟩)=some (zipN f_Pi w_Pi ([v0,v1,v2,v3,v4,v5]++([.ref 47,.none,.str "" 242,.int 0 243]:List Value).drop (6 - (8 - 4)))) from fun v0 v1 v2 v3 v4 v5 st=>by kernel_rfl)
    ·exact (show ∀ v0 v1 v2 v3 v4 v5 v6,∀ st:Setting,PySem.W.peek _ st (bindArgs (fdOf _ 55) ⟨[v0,v1,v2,v3,v4,v5,v6],[]⟩)=some (zipN f_Pi w_Pi ([v0,v1,v2,v3,v4,v5,v6]++([.ref 47,.none,.str "" 242,.int 0 243]:List Value).drop (7 - (8 - 4)))) from fun v0 v1 v2 v3 v4 v5 v6 st=>by kernel_rfl)
    ·exact (show ∀ v0 v1 v2 v3 v4 v5 v6 v7,∀ st:Setting,PySem.W.peek _ st (bindArgs (fdOf _ 55) ⟨[v0,v1,v2,v3,v4,v5,v6,v7],[]⟩)=some (zipN f_Pi w_Pi ([v0,v1,v2,v3,v4,v5,v6,v7]++([.ref 47,.none,.str "" 242,.int 0 243]:List Value).drop (8 - (8 - 4)))) from fun v0 v1 v2 v3 v4 v5 v6 v7 st=>by kernel_rfl)
  d_Gap:=by
    intro m h1 h2
    have:m=3∨m=4∨m=5∨m=6:=y8 h1 .inl fun h=> .inr (y8 h .inl fun h=> .inr (y8 h .inl fun h=> .inr (Nat.le_antisymm h2 h)))
    rcases this with rfl | rfl | rfl | rfl
    ·exact (show ∀ v0 v1 v2,∀ st:Setting,PySem.W.peek _ st (bindArgs (fdOf _ 187) ⟨[v0,v1,v2],[]⟩)=some (zipN f_Gap w_Gap ([v0,v1,v2]++([.none,.str "" 439,.int 0 440]:List Value).drop (3 - (6 - 3)))) from fun v0 v1 v2 st=>by kernel_rfl)
    ·exact (show ∀ v0 v1 v2 v3,∀ st:Setting,PySem.W.peek _ st (bindArgs (fdOf _ 187) ⟨[v0,v1,v2,v3],[]⟩)=some (zipN f_Gap w_Gap ([v0,v1,v2,v3]++([.none,.str "" 439,.int 0 440]:List Value).drop (4 - (6 - 3)))) from fun v0 v1 v2 v3 st=>by kernel_rfl)
    ·exact (show ∀ v0 v1 v2 v3 v4,∀ st:Setting,PySem.W.peek _ st (bindArgs (fdOf _ 187) ⟨[v0,v1,v2,v3,v4],[]⟩)=some (zipN f_Gap w_Gap ([v0,v1,v2,v3,v4]++([.none,.str "" 439,.int 0 440]:List Value).drop (5 - (6 - 3)))) from fun v0 v1 v2 v3 v4 st=>by kernel_rfl)
    ·exact (show ∀ v0 v1 v2 v3 v4 v5,∀ st:Setting,PySem.W.peek _ st (bindArgs (fdOf _ 187) ⟨[v0,v1,v2,v3,v4,v5],[]⟩)=some (zipN f_Gap w_Gap ([v0,v1,v2,v3,v4,v5]++([.none,.str "" 439,.int 0 440]:List Value).drop (6 - (6 - 3)))) from fun v0 v1 v2 v3 v4 v5 st=>by kernel_rfl)
  d_Gss:=by
    intro m h1 h2
    have:m=1∨m=2:=y8 h1 .inl fun h=> .inr (Nat.le_antisymm h2 h)
    rcases this with rfl | rfl
    ·exact (show ∀ v0,∀ st:Setting,PySem.W.peek _ st (bindArgs (fdOf _ 195) ⟨[v0],[]⟩)=some (zipN f_Gss w_Gss ([v0]++([.none]:List Value).drop (1 - (2 - 1)))) from fun v0 st=>by kernel_rfl)
    ·exact (show ∀ v0 v1,∀ st:Setting,PySem.W.peek _ st (bindArgs (fdOf _ 195) ⟨[v0,v1],[]⟩)=some (zipN f_Gss w_Gss ([v0,v1]++([.none]:List Value).drop (2 - (2 - 1)))) from fun v0 v1 st=>by kernel_rfl)
  d_Gcf:=by
    intro m h1 h2
    have:m=1∨m=2:=y8 h1 .inl fun h=> .inr (Nat.le_antisymm h2 h)
    rcases this with rfl | rfl
    ·exact (show ∀ v0,∀ st:Setting,PySem.W.peek _ st (bindArgs (fdOf _ 259) ⟨[v0],[]⟩)=some (zipN f_Gcf w_Gcf ([v0]++([.none]:List Value).drop (1 - (2 - 1)))) from fun v0 st=>by kernel_rfl)
    ·exact (show ∀ v0 v1,∀ st:Setting,PySem.W.peek _ st (bindArgs (fdOf _ 259) ⟨[v0,v1],[]⟩)=some (zipN f_Gcf w_Gcf ([v0,v1]++([.none]:List Value).drop (2 - (2 - 1)))) from fun v0 v1 st=>by kernel_rfl)
  glob_chk:=by kernel_rfl
  blt_chk:=by kernel_rfl
  law_at:=by kernel_rfl
  bm_chk:=by kernel_rfl
  bm_obj:=by kernel_rfl
  alias_obj:=by kernel_rfl
  sys_chk:=by kernel_rfl
  clsG_all:=by kernel_rfl
  tab_hd0:=by kernel_rfl
  tab_hd1:=by kernel_rfl
  tab_hd2:=by kernel_rfl
  ways_body:=by kernel_rfl
  ways_fn:=by kernel_rfl
  ways_rc:=by kernel_rfl
  ways_bind:=by kernel_rfl
  ways_nms:=by kernel_rfl
  place_fn:=by kernel_rfl
  place_rc:=by kernel_rfl
  place_bind:=fun v=>by kernel_rfl
  place_nms:=by kernel_rfl
  place_gl:=⟨by kernel_rfl,by kernel_rfl⟩
  place_body:=by kernel_rfl
  },by kernel_rfl,fun t=> ?_⟩
 rcases t with _ | _ | t
 ·kernel_rfl
 ·kernel_rfl
 ·kernel_rfl
end
section
open PySem PySem.W PyProof.Rows PySem.SeqAt PySem.W.X PySem.W.Z PySem.Challenge
theorem fragL_in {h:Heap}:∀ {l:List Obj} {n:Nat},(∀ i o,l[i]? =some o→h.get? (n+i)=some o)→Frag.In (fragL n l) h
 | [],_,_=>fun a o e=>by cases e
 | b::l,n,H=>fun a o e=>by
  have e:(match a==n with | true=>some b | false=>(fragL (n+1) l).lookup a)=some o:=e
  cases q:a==n with
  | true=>
   rw [q] at e
   rw [eq_of_beq q]
   exact H 0 o e
  | false=>
   rw [q] at e
   exact fragL_in (fun i o z=>by rw [Nat.add_right_comm];exact H (i+1) o z) a o e
theorem frag_in {h:Heap} (A:(h.objs.toList.all fun o=>o.alive)=true):Frag.In (fragL 0 h.objs.toList) h:=
 fragL_in fun i o e=>by
  rw [Nat.zero_add]
  exact (Heap.get?_eq_some h i o).mpr ⟨Array.getElem?_toList.symm.trans e,Zz A o (Qx e)⟩
theorem left0:LeftO pw_kg0024_02 q0 loose0 (fun uu=>true) (fun s=>(s.heap.get?,s.heap.objs.size)) (fun w=>((heapW w).get?,(heapW w).objs.size)) 6700:=fun w=>by
 obtain ⟨⟨s₀,s₁⟩,h1,h2⟩:=Option.map_eq_some_iff.mp (kw_ok w).1.1
 obtain ⟨c1,c2⟩:=Prod.mk.inj h2
 obtain ⟨e1,e2⟩:=finQ_spec h1
 have hw:heapW w=s₁.abs.heap:=congrArg hOf h1
 refine ends_of e1 e2 c1 ?_
 refine Prod.ext c2 ?_
 show (s₁.abs.heap.get?,s₁.abs.heap.objs.size)=((heapW w).get?,(heapW w).objs.size)
 rw [hw]
theorem law_of (q:Program) (w:World) {K:Frag} {S:Shared} {mg mb:Str→Option Value} {xs:List Int} {vs:List Value} (Z:Start K S mg mb xs vs):mg (Str.ofString "law")=some (.ref 461):=
 Uz (hok (prog:=q) (w:=w) Z).kin (cut3_ns Z.g (by decide)) Z.kf.law_at
theorem size0 (w:World):(heapW w).objs.size=462:=(kw_ok w).1.2
set_option tactic.hygienic true in
theorem walk_ok {q:Program} {loose:List Str} {XP:(Str→Option Value)→Heap→Prop} {d:DefRec} {kwd:List (Str × Expr)} (hd:d.name=Str.ofString "law"):
  WalkX q loose XP (fun s=>(s.heap.get?,s.heap.objs.size)) (fun w=>((heapW w).get?,(heapW w).objs.size)) rw_kg0024_02.row.toRowW d kwd (fun f vs=>PySem.call f vs):=by
 intro w s₀ s₁ mg mb G y fa o pm cd doc dV kV ho hdt hcd hD hmg hg args vals as' L hpre hlay hrd hwl hlo
 obtain ⟨y1,y2⟩:=Prod.mk.inj y
 obtain ⟨kf,hall,kt⟩:=(kw_ok w).2
 have keeps:=Laid.keeps L
 have KX:(KW w).In s₁.heap:=fun a o e=>keeps a o ((congrFun y1 a).trans (frag_in hall a o e))
 have ZN:s₀.heap.objs.size=462:=y2.trans (size0 w)
 clear y1 y2 hall
 have T:=G.T
 wrow_args hpre hlay hrd hwl hlo
 obtain ⟨hat,hsz⟩:=script_at L
 rw [ZN] at hat hsz
 rename_i xs _ _ _ _ _ as1 as2 sa svs as3 hIs _ _ _ hI _ hc _
 subst hat
 have Z:Start (KW w) s₁ mg mb xs svs:=⟨KX,kf,kt,T.g,T.b,T.nolimit,script_obj L hIs,hI,by omega⟩
 have hfa:fa=461:=by
  have e:mg (Str.ofString "law")=some (.ref 461):=law_of q w Z
  rw [hd,e] at hmg
  cases hmg;rfl
 subst hfa
 refine law_call Z fun S' hO hos hgens=> ?_
 refine ⟨.inl ⟨_,_,[],rfl,fun _=>rfl,ReadsW.bool true,?_,fun _=>⟨List.nodup_nil,fun _ hm=>(nomatch hm)⟩⟩,hO,hos,.of_eq (hgens.trans hg)⟩
 first | rfl | wrow_post
end
section
open PySem PySem.W PyProof.Rows PySem.Challenge
theorem wl1:noRoadLSs { strict:= !(importedModules pw_kg0024_02.main.body).all cThrough.contains,foot:=none,bare:=(["vars","dir","locals"]:List Str).filter (readsOut pw_kg0024_02 pw_kg0024_02.main.body) } pw_kg0024_02.main.body=true:=by kernel_rfl
theorem wl2:namesMeet pw_kg0024_02 pw_kg0024_02.main.body (fun uu n=>attrL n)=true:=by kernel_rfl
theorem wl3:namesResolve pw_kg0024_02=true:=by rw [PySem.W.Fast.te8377067652309620493];kernel_rfl
theorem wl0:(sreFenced pw_kg0024_02.main && ((moduleNames pw_kg0024_02.main.body).isEmpty || lookedIntoSs (moduleNames pw_kg0024_02.main.body) pw_kg0024_02.main.body))=true:=by kernel_rfl
theorem wl:looksOpen pw_kg0024_02=true:=look_both (look_both (look_both (look_both wl0 wl3) (by kernel_rfl)) wl1) wl2
theorem wr:OpenRow.wellSaid (OpenLaw.row rw_kg0024_02)=true:=by
 unfold OpenRow.wellSaid OpenRow.partSaid
 rw [show looksOpen (OpenLaw.row rw_kg0024_02).prog=true from wl]
 kernel_rfl
theorem wlaw:OpenLaw.wellSaid rw_kg0024_02=true:=by
 unfold OpenLaw.wellSaid
 rw [wr]
 kernel_rfl
end
end Mine.Internal
open PySem PySem.W PyProof.Rows PySem.W.ZRun PySem.W.X PySem.W.Z Mine.Internal
set_option maxRecDepth 100000 in
set_option maxHeartbeats 0 in
theorem PySem.Challenge.cw_kg0024_02_holds : PySem.Challenge.rw_kg0024_02.Holds := by
 w_on
 refine holds_law wlaw fun said=> ?_
 refine holds_openX (r:=PySem.Challenge.rw_kg0024_02.row) left0 (XP:=fun uu uu=>True) (fun uu uu=>trivial) (fun uu uu uu uu uu=>trivial) (by rfl) (by rfl) (by rfl) (fun s uu=>recFacts_of (by rfl)) (by rfl) (by assumption) (by decide+kernel) ⟨rfl,rfl,rfl,rfl,rfl,by decide+kernel⟩ ?hw (walk_ok rfl)
 (case hw=>w_witness2)
