import PyProof.Rows.All
import Wide.All
import OpenK.AllK
import Wide.FinOn
import PySem.Challenge.RW_ik0052_01
set_option Elab.async false
set_option linter.all false
set_option compiler.extract_closed false
set_option tactic.hygienic false
set_option maxRecDepth 100000
set_option maxHeartbeats 1000000
open PySem PySem.W PyProof.Rows
open PySem.Str (ofString)
noncomputable section
namespace Mine
set_option maxHeartbeats 8000000
section
local macro_rules | `(tactic| o_head $H) => `(tactic| assumption)
theorem hd (h : PySem.Challenge.rw_ik0052_01.row.Holds) : PySem.Challenge.rw_ik0052_01.row.Holds := by k_head
end
noncomputable abbrev KAS : List Addr := [2,3,15,17,18,20,21,29,31,32,34,35,36,38,39,41,42,43,45,46,48,49,50,52,53,55,56,57,59,60,62,63,64,66,67,69,70,71,73,74,76,77,78,80,81,83,84,85,87,88,90,91,92,93,94,95,96,99,102,107,108,109,111,112,114,115,116,118,119,121,122,123,124,126,127,129,130,131,132,134,135,137,138,139,141,142,144,145,146,148,149,151,152,153,154,156,157,159,160,161,163,164,166,167,168,169,171,172,174,175,176,177,178,179,180,183,185,186,188,189,190,191,192,194,195,197,198,199,201,202,204,205,206,208,209,211,212,213,214,215,216,217,218,219,220,221,222,223,224,225,226,227,228,229,230,231,232,233,234,235,236,237,238,239,240,241,242,243,244,245,246,248,249,251,252,253,255,256,258,259,260,262,263,265,266,267,270,271,272,274,275,277,278,279,281,282,284,285,286,288,289,291,292,293,296,297]
noncomputable abbrev KHook : Hook := kmHook hd.heap_1 KAS (fun _ => by kernel_rfl) [140,147,184]
noncomputable abbrev KView : Program := PySem.W.view PySem.Challenge.pw_ik0052_01 [0,2,3,4,5,7,8,11,12,13,14,15,16,17,18,19,20,21,22,23,24,25,26,27,28,29,30,31,32,33,35,36,37,38,39,40,41]
noncomputable abbrev KLoose : List Str := [ofString "_Accumulator",ofString "_initial_missing",ofString "reduce",ofString "_filemode_table"]
noncomputable def runT (tb : String -> Option Builtin) (p : Program) (w : World) (n0 : Nat) (ann : Option Value) : Nat -> SharedT -> Thread -> Option SharedT
  | 0,_,_ => none
  | n + 1,s,t => match through t with
    | true => some s
    | false => match stepOk n0 ann t with
      | false => none
      | true => match stepT (denote tb) p w s t with
        | some (s',t') => runT tb p w n0 ann n s' t'
        | none => none
theorem runT_of {tb : String -> Option Builtin} {p : Program} {w : World} {n0 : Nat} {ann : Option Value} : ∀ {n : Nat} {s s' : SharedT} {t : Thread},runT tb p w n0 ann n s t = some s' -> topRun tb p w n0 ann n s.abs t = some s'.abs
  | 0,_,_,_,h => by cases h
  | n + 1,s,s',t,h => by
    unfold runT at h
    unfold topRun
    cases he : through t with
    | true => rw [he] at h;cases h;rfl
    | false =>
      rw [he] at h
      cases hk : stepOk n0 ann t with
      | false => rw [hk] at h;cases h
      | true =>
        rw [hk] at h
        cases hs : stepT (denote tb) p w s t with
        | none => rw [hs] at h;cases h
        | some r => rw [hs] at h;dsimp only;rw [stepT_spec hs];exact runT_of h
theorem left_tree {p q : Program} {loose : List Str} {Xt : Shared -> Bool} {α : Type} {Yf : Shared -> α} {Ya : World -> α} {N : Nat} {g0 : Bool} {H : Params -> Heap} {T : Params -> BT} {gs : Array GenState} {d : Drawn} {k m : Nat} {ann : Option Value} {life : Life}
    (open_ : ∀ w : World,(fencedOpening treeTable p w N).map (fun s => (s.heap,s.gens,s.drawn,s.toks)) = some (H w.params,gs,d,k))
    (tree : ∀ P,absHeap (T P) m life = H P)
    (size : ∀ w : World,((H w.params).isNs mainGlobals && gs.size == 0,(H w.params).objs.size,(H w.params).nsMap mainGlobals "__annotations__") = (true,m,ann))
    (run : ∀ (w : World) (os : OsState),(runT treeTable p w m ann N ⟨T w.params,m,life,gs,d,k,os⟩ (topStub p)).map (fun s => ((staticsOk (importedModules p.main.body) (H w.params) s.abs.heap && namesBound p s.abs.heap && gensDone s.abs && laidKept (H w.params) s.abs.heap),openSeen q loose (importedModules p.main.body) Xt g0 s.abs,Yf s.abs)) = some (true,openGood q loose,Ya w)) : LeftO p q loose Xt Yf Ya N g0 := fun w => by
  obtain ⟨⟨h,gs',d',k',os⟩,e,e'⟩ := Option.map_eq_some_iff.mp (open_ w)
  obtain ⟨rfl,rfl,rfl,rfl⟩ : h = H w.params ∧ gs' = gs ∧ d' = d ∧ k' = k := by simpa using e'
  obtain ⟨z1,z2,z3⟩ : _ ∧ _ ∧ _ := by simpa only [Prod.mk.injEq] using size w
  obtain ⟨s,r,l⟩ := Option.map_eq_some_iff.mp (run w os)
  obtain ⟨l1,l2,l3⟩ : _ ∧ _ ∧ _ := by simpa only [Prod.mk.injEq] using l
  have r := runT_of r
  have eH : (⟨T w.params,m,life,gs',d',k',os⟩ : SharedT).abs = ⟨H w.params,gs',d',k',os⟩ := by
    unfold SharedT.abs;rw [tree]
  rw [eH] at r
  have t : topFrom treeTable p w N ⟨H w.params,gs',d',k',os⟩ = some s.abs := by
    unfold topFrom
    dsimp only
    rw [z1,z2,z3,r]
    show (match staticsOk (importedModules p.main.body) (H w.params) s.abs.heap && namesBound p s.abs.heap && gensDone s.abs && laidKept (H w.params) s.abs.heap with | true => _ | false => _) = _
    rw [l1]
  unfold openEnds
  rw [e]
  show Option.map _ (topFrom treeTable p w N ⟨H w.params,gs',d',k',os⟩) = _
  rw [t]
  show some (_,_) = _
  rw [l2,l3]
noncomputable def bootT (P : Params) : BT := ((((((((((BT.nil.ins 0 (boot_o_0 P)).ins 1 (boot_o_1 P)).ins 2 (boot_o_2 P)).ins 3 (boot_o_3 P)).ins 4 (boot_o_4 P)).ins 5 (boot_o_5 P)).ins 6 (boot_o_6 P)).ins 7 (boot_o_7 P)).ins 8 (boot_o_8 P)).ins 9 (boot_o_9 P)).ins 10 (boot_o_10 P)
theorem kLeft : LeftO PySem.Challenge.pw_ik0052_01 KView KLoose (fun s => xlAt KView [] s && recOk (RowW.records PySem.Challenge.rw_ik0052_01.row.toRowW) s) (Hook.obs KHook) (Hook.val KHook) 3738 := left_tree (H := boot_heap) (T := bootT) (gs := Array.mk []) (d := boot_drawn) (k := boot_toks) (m := 11) (ann := some (.ref 6)) (life := {})
  (boot_open (by kernel_rfl) (by decide +kernel) (fun s => by kernel_rfl)) (fun P => by kernel_rfl) (fun w => by kernel_rfl) fun w os => by kernel_rfl
theorem kSaid : PySem.Challenge.rw_ik0052_01.wellSaid = true := by kernel_rfl
set_option maxHeartbeats 1000000
open PySem.Calls
local macro_rules | `(tactic| omega) => `(tactic| lia)
noncomputable def eps {α : Type} (_ : Nonempty α) (p : α -> Prop) : α := Classical.epsilon fun x => ¬ p x
noncomputable def epx {α : Type} (_ : Nonempty α) (p : α -> Prop) : α := Classical.epsilon p
@[irreducible] noncomputable def At {α : Type} (p : α -> Prop) (x : α) : Prop := p x
noncomputable abbrev AtA {α : Type} (p : α -> Prop) (G : Prop) : Prop := ∀ x,At p x -> G
theorem atI {α : Type} {p : α -> Prop} {x : α} (h : p x) : At p x := by unfold At;exact h
theorem atE {α : Type} {p : α -> Prop} {x : α} (h : At p x) : p x := by unfold At at h;exact h
theorem eall {α : Type} {p : α -> Prop} (n : Nonempty α) (h : At p (eps n p)) : ∀ x,p x := fun x => Classical.byContradiction fun q => (Classical.epsilon_spec (p := fun x => ¬ p x) ⟨x,q⟩) (atE h)
theorem exA {α : Type} {p : α -> Prop} (n : Nonempty α) (h : ∃ x,p x) : At p (epx n p) := by unfold At;exact Classical.epsilon_spec h
@[elab_as_elim] theorem rwl {α : Sort u} {a b : α} {p : α -> Prop} (e : a = b) (h : p b) : p a := e ▸ h
@[elab_as_elim] theorem rwr {α : Sort u} {a b : α} {p : α -> Prop} (e : b = a) (h : p b) : p a := e ▸ h
theorem sharedAll {p : Shared -> Prop} (h : ∀ hh g d t os,p ⟨hh,g,d,t,os⟩) : ∀ s,p s := fun s => h s.heap s.gens s.drawn s.toks s.os
theorem neP : Nonempty Params := ⟨{ strHash := fun _ => 0,shareClass := fun _ => 0,mergeTok := fun x => x,idOf := fun _ => 0,idOfShared := fun _ _ => 0,followText := fun _ => true,idOfImm := fun _ => 0 }⟩
theorem neW : Nonempty World := neP.elim fun p => ⟨⟨fun _ _ => 0,p⟩⟩
theorem neR : Nonempty Drawn := ⟨{}⟩
theorem neS : Nonempty Shared := ⟨{}⟩
theorem neA : Nonempty Around := ⟨{}⟩
theorem neM : Nonempty Model := neW.elim fun w => ⟨⟨fun _ => default,default,w⟩⟩
local macro_rules | `(tactic| walk_at "ne") => `(tactic| first | exact inferInstance | exact neS | exact neA | exact neW  | exact neR | exact neM | exact neP)
local macro_rules
 | `(tactic| intros $x:ident) => `(tactic| first | (refine @eall _ _ (by walk_at "ne") ?_;refine (?f : ∀ x,At _ x) _;intro $x:ident;refine atI ?_) | fail)
 | `(tactic| intros $x:ident $y $ys*) => `(tactic| (intros $x:ident;intros $y $ys*))
local macro_rules
 | `(tactic| rcases $e:term with @⟨$ps,*⟩) => do
  let a := ps.getElems
  if h : a.size = 0 then Lean.Macro.throwUnsupported else
  let p := a[0]
  if a.size == 1 then
   match p with
   | `(Lean.Parser.Tactic.rcasesPatLo| ⟨$qs,*⟩) => `(tactic| rcases $e:term with @⟨$qs,*⟩)
   | `(Lean.Parser.Tactic.rcasesPatLo| $x:ident) => if x.getId == `rfl then `(tactic| rcases $e:term with $p:rcasesPatLo) else `(tactic| (refine (?g : _ -> _) $e;clear $(⟨e⟩):ident;intro $x:ident))
   | _ => `(tactic| rcases $e:term with $p:rcasesPatLo)
  else
   let r := a.extract 1 a.size
   let c ← if e.raw.isIdent then `(tactic| try clear $(⟨e.raw⟩):ident) else `(tactic| skip)
   let t ← `(tactic| first | (refine And.elim (fun h0 h1 => ?_) $e;$c:tactic;rcases h0 with @⟨$p⟩;rcases h1 with @⟨$r,*⟩) | rcases $e:term with ⟨$ps,*⟩)
   match p with
   | `(Lean.Parser.Tactic.rcasesPatLo| $x:ident) =>
    if x.getId == `rfl then return t
    `(tactic| first | (refine (?f : AtA _ _) _ (exA (by walk_at "ne") $e);intro $x:ident h0;refine (?g : _ -> _) (atE h0);clear h0;$c:tactic;intro h1;rcases h1 with @⟨$r,*⟩) | $t:tactic)
   | _ => return t
local macro_rules
 | `(tactic| obtain @⟨$ps,*⟩ := $e:term) => `(tactic| rcases $e:term with @⟨$ps,*⟩)
local macro_rules | `(tactic| show $t:term) => `(tactic| first | refine (?_ : $t) | fail)
local macro_rules
 | `(tactic| rw [$rs,*]) => do
  let a := rs.getElems
  if h : a.size = 0 then Lean.Macro.throwUnsupported else
  let t ← match a[0] with
   | `(Lean.Parser.Tactic.rwRule| ← $e:term) => `(tactic| first | with_reducible refine rwr $e ?_ | with_reducible refine rwr ($e ..) ?_ | rewrite [← $e:term])
   | `(Lean.Parser.Tactic.rwRule| $e:term) => `(tactic| first | with_reducible refine rwl $e ?_ | with_reducible refine rwl ($e ..) ?_ | rewrite [$e:term])
   | _ => Lean.Macro.throwUnsupported
  if a.size == 1 then `(tactic| ($t:tactic;try (with_reducible rfl)))
  else
   let s := a.extract 1 a.size
   `(tactic| ($t:tactic;rw [$s,*]))
section
inductive D where
 | int (i : Int) | str (x : Str) | bool (b : Bool) | non
 | tup (l : List D) | lst (l : List D) | val (v : Value)
mutual
noncomputable def Rel (W : List Addr) (h : Heap) : D -> Value -> Prop
 | .int i,v => ∃ t,v = .int i t
 | .str x,v => ∃ t,v = .str x t
 | .bool b,v => v = .bool b
 | .non,v => v = .none
 | .val u,v => v = u
 | .tup l,v => ∃ a vs,v = .ref a ∧ a ∉ W ∧ IsTup h a vs.toArray ∧ Rels W h l vs
 | .lst l,v => ∃ a vs,v = .ref a ∧ a ∉ W ∧ h.IsList a vs.toArray ∧ Rels W h l vs
noncomputable def Rels (W : List Addr) (h : Heap) : List D -> List Value -> Prop
 | [],vs => vs = []
 | d :: ds,vs => ∃ v r,vs = v :: r ∧ Rel W h d v ∧ Rels W h ds r
end
@[elab_as_elim] theorem relsC {W : List Addr} {h : Heap} {d : D} {ds : List D} {vs : List Value} {G : List Value -> Prop} (x : Rels W h (d :: ds) vs) (k : ∀ v r,Rel W h d v -> Rels W h ds r -> G (v :: r)) : G vs := by
 obtain ⟨v,r,rfl,a,b⟩ := x
 exact k v r a b
@[elab_as_elim] theorem rels1 {W : List Addr} {h : Heap} {d : D} {vs : List Value} {G : List Value -> Prop} (x : Rels W h [d] vs) (k : ∀ v,Rel W h d v -> G [v]) : G vs := relsC (G := G) x fun v r a b => (show r = [] from b) ▸ k v a
@[elab_as_elim] theorem rels2 {W : List Addr} {h : Heap} {d e : D} {vs : List Value} {G : List Value -> Prop} (x : Rels W h [d,e] vs) (k : ∀ v u,Rel W h d v -> Rel W h e u -> G [v,u]) : G vs := relsC (G := G) x fun v _ a b => rels1 (G := fun r => G (v :: r)) b fun u => k v u a
@[elab_as_elim] theorem rels3 {W : List Addr} {h : Heap} {d e f : D} {vs : List Value} {G : List Value -> Prop} (x : Rels W h [d,e,f] vs) (k : ∀ v u t,Rel W h d v -> Rel W h e u -> Rel W h f t -> G [v,u,t]) : G vs := relsC (G := G) x fun v _ a b => rels2 (G := fun r => G (v :: r)) b fun u t => k v u t a
@[elab_as_elim] theorem rels4 {W : List Addr} {h : Heap} {d e f g : D} {vs : List Value} {G : List Value -> Prop} (x : Rels W h [d,e,f,g] vs) (k : ∀ v u t s,Rel W h d v -> Rel W h e u -> Rel W h f t -> Rel W h g s -> G [v,u,t,s]) : G vs := relsC (G := G) x fun v _ a b => rels3 (G := fun r => G (v :: r)) b fun u t s => k v u t s a
@[elab_as_elim] theorem rels5 {W : List Addr} {h : Heap} {d e f g i : D} {vs : List Value} {G : List Value -> Prop} (x : Rels W h [d,e,f,g,i] vs) (k : ∀ v u t s r,Rel W h d v -> Rel W h e u -> Rel W h f t -> Rel W h g s -> Rel W h i r -> G [v,u,t,s,r]) : G vs := relsC (G := G) x fun v _ a b => rels4 (G := fun r => G (v :: r)) b fun u t s r => k v u t s r a
mutual
theorem Rel.widen {W : List Addr} {h : Heap} {a : Addr} (hn : h.get? a = none) : ∀ {d : D} {v : Value},Rel W h d v -> Rel (a :: W) h d v
 | .int _,_,x => x
 | .str _,_,x => x
 | .bool _,_,x => x
 | .non,_,x => x
 | .val _,_,x => x
 | .tup l,v,x => by
  unfold Rel at x ⊢
  obtain ⟨b,vs,e,hb,ht,r⟩ := x
  refine ⟨b,vs,e,fun q => ?_,ht,Rels.widen hn r⟩
  rcases List.mem_cons.mp q with rfl | q
  ·obtain ⟨o,eo,_⟩ := ht;rw [hn] at eo;cases eo
  ·exact hb q
 | .lst l,v,x => by
  unfold Rel at x ⊢
  obtain ⟨b,vs,e,hb,ht,r⟩ := x
  refine ⟨b,vs,e,fun q => ?_,ht,Rels.widen hn r⟩
  rcases List.mem_cons.mp q with rfl | q
  ·obtain ⟨o,eo,_⟩ := ht;rw [hn] at eo;cases eo
  ·exact hb q
theorem Rels.widen {W : List Addr} {h : Heap} {a : Addr} (hn : h.get? a = none) : ∀ {ds : List D} {vs : List Value},Rels W h ds vs -> Rels (a :: W) h ds vs
 | [],_,x => by unfold Rels at x ⊢;exact x
 | d :: ds,vs,x => by
  unfold Rels at x ⊢
  obtain ⟨v,r,e,p,q⟩ := x
  exact ⟨v,r,e,Rel.widen hn p,Rels.widen hn q⟩
end
noncomputable def NoSeq (h : Heap) (a : Addr) : Prop := ∀ o,h.get? a = some o -> ∀ xs n,o.data ≠ .seq xs n
theorem isTup_move {h h' : Heap} {a : Addr} {xs : Array Value} (x : IsTup h a xs) (k : ∀ o,h.get? a = some o -> h'.get? a = some o) : IsTup h' a xs := let ⟨o,e,r⟩ := x;⟨o,k o e,r⟩
theorem isList_move {h h' : Heap} {a : Addr} {xs : Array Value} (x : h.IsList a xs) (k : ∀ o,h.get? a = some o -> h'.get? a = some o) : h'.IsList a xs := let ⟨o,e,r⟩ := x;⟨o,k o e,r⟩
mutual
theorem Rel.move {W V : List Addr} {h h' : Heap} (k : ∀ b o,b ∉ V -> h.get? b = some o -> h'.get? b = some o) (hV : ∀ b ∈ V,b ∈ W ∨ NoSeq h b) : ∀ {d : D} {v : Value},Rel W h d v -> Rel W h' d v
 | .int _,_,x => x
 | .str _,_,x => x
 | .bool _,_,x => x
 | .non,_,x => x
 | .val _,_,x => x
 | .tup l,v,x => by
  unfold Rel at x ⊢
  obtain ⟨a,vs,e,ha,ht,r⟩ := x
  refine ⟨a,vs,e,ha,isTup_move ht fun o eo => k a o (fun q => ?_) eo,Rels.move k hV r⟩
  obtain ⟨o',e',_,n,hd⟩ := ht
  rcases hV a q with q | q
  ·exact ha q
  ·exact q o' e' _ _ hd
 | .lst l,v,x => by
  unfold Rel at x ⊢
  obtain ⟨a,vs,e,ha,ht,r⟩ := x
  refine ⟨a,vs,e,ha,isList_move ht fun o eo => k a o (fun q => ?_) eo,Rels.move k hV r⟩
  obtain ⟨o',e',_,n,hd⟩ := ht
  rcases hV a q with q | q
  ·exact ha q
  ·exact q o' e' _ _ hd
theorem Rels.move {W V : List Addr} {h h' : Heap} (k : ∀ b o,b ∉ V -> h.get? b = some o -> h'.get? b = some o) (hV : ∀ b ∈ V,b ∈ W ∨ NoSeq h b) : ∀ {ds : List D} {vs : List Value},Rels W h ds vs -> Rels W h' ds vs
 | [],_,x => by unfold Rels at x ⊢;exact x
 | d :: ds,vs,x => by
  unfold Rels at x ⊢
  obtain ⟨v,r,e,a,b⟩ := x
  exact ⟨v,r,e,Rel.move k hV a,Rels.move k hV b⟩
end
structure Ext (V : List Addr) (s s' : Shared) : Prop where
 keep : ∀ b o,b ∉ V -> s.heap.get? b = some o -> s'.heap.get? b = some o
 os : s'.os = s.os
 gens : AllBare s.gens -> AllBare s'.gens
theorem Ext.refl (V : List Addr) (s : Shared) : Ext V s s := ⟨fun _ _ _ e => e,rfl,fun x => x⟩
theorem Ext.trans {V : List Addr} {a b c : Shared} (x : Ext V a b) (y : Ext V b c) : Ext V a c := ⟨fun p o n e => y.keep p o n (x.keep p o n e),y.os.trans x.os,fun g => y.gens (x.gens g)⟩
theorem Ext.mono {V V' : List Addr} {a b : Shared} (x : Ext V a b) (hV : ∀ p ∈ V,p ∈ V') : Ext V' a b := ⟨fun p o n e => x.keep p o (fun q => n (hV p q)) e,x.os,x.gens⟩
theorem Ext.nil {V : List Addr} {a b : Shared} (x : Ext [] a b) : Ext V a b := x.mono fun _ q => nomatch q
theorem Ext.all {a b : Shared} (x : Ext [] a b) : ∀ p o,a.heap.get? p = some o -> b.heap.get? p = some o := fun p o e => x.keep p o (fun q => nomatch q) e
theorem Ext.tok (V : List Addr) (s : Shared) (t : Nat) : Ext V s { s with toks := t } := ⟨fun _ _ _ e => e,rfl,fun x => x⟩
theorem Ext.push {V : List Addr} {s : Shared} {o : Obj} : Ext V s { s with heap := s.heap.push o } := ⟨fun _ _ _ e => Heap.get?_push_of_some _ e,rfl,fun x => x⟩
theorem Rel.ext {W : List Addr} {s s' : Shared} {d : D} {v : Value} (x : Rel W s.heap d v) (e : Ext [] s s') : Rel W s'.heap d v := x.move (V := []) e.keep fun _ q => nomatch q
theorem Rels.ext {W : List Addr} {s s' : Shared} {d : List D} {v : List Value} (x : Rels W s.heap d v) (e : Ext [] s s') : Rels W s'.heap d v := x.move (V := []) e.keep fun _ q => nomatch q
noncomputable def WIn (W : List Addr) (h : Heap) : Prop := ∀ b ∈ W,∃ o,h.get? b = some o
theorem WIn.ext {W : List Addr} {s s' : Shared} (x : WIn W s.heap) (e : Ext [] s s') : WIn W s'.heap := fun b hb => let ⟨o,q⟩ := x b hb;⟨o,e.all b o q⟩
theorem WIn.fresh {W : List Addr} {h : Heap} (x : WIn W h) : h.objs.size ∉ W := fun q => by
 obtain ⟨o,e⟩ := x _ q
 exact absurd (Heap.lt_size e) (Nat.lt_irrefl _)
structure Asr (W : List Addr) where
 P : Heap -> Prop
 st : ∀ (V : List Addr) (h h' : Heap),(∀ b o,b ∉ V -> h.get? b = some o -> h'.get? b = some o) -> (∀ b ∈ V,b ∉ W ∧ NoSeq h b) -> P h -> P h'
noncomputable def Asr.top (W : List Addr) : Asr W := ⟨fun _ => True,fun _ _ _ _ _ x => x⟩
theorem neI (W : List Addr) : Nonempty (Asr W) := ⟨Asr.top W⟩
theorem neD : Nonempty D := ⟨.non⟩
structure Gr (w : World) (hb : Heap) : Prop where
 X : (hd.heap_1 w.params).In hb
 T : ∃ p loose mg mb,TopRead p loose mg mb hb
 B : ∃ ob,hb.get? 4 = some ob ∧ ob.cls = .type "module" ∧ ob.dict = some builtinsNs ∧ ob.data = .plain
structure EnvOk (hb : Heap) (env : Env) : Prop where
 kind : env.scope.kind = .function
 apart : env.cells.Pairwise fun x y => x.2 ≠ y.2
 off : ∀ n c,(n,c) ∈ env.cells -> c ≠ env.locals
 own : ∀ n c,(n,c) ∈ env.cells -> env.kindOf n = some .cell -> hb.get? c = none
 gl : env.globals = mainGlobals
 bi : env.builtins = builtinsNs
noncomputable def VarOk (W : List Addr) (env : Env) (h : Heap) (m : Str -> Option Value) (x : Str) (d : D) : Prop :=
 (env.kindOf x = some .local ∧ ∃ v,m x = some v ∧ Rel W h d v) ∨
 ((env.kindOf x = some .cell ∨ (env.kindOf x = some .free ∧ (x == ("__classdict__" : Str)) = false)) ∧ ∃ a v,env.cells.lookup x = some a ∧ h.IsCell a (some v) ∧ Rel W h d v)
structure Loc (hb : Heap) (W : List Addr) (env : Env) (ρ : List (Str × D)) (h : Heap) : Prop where
 fr : ∃ m,Fr hb env.locals h m ∧ ∀ x d,ρ.lookup x = some d -> VarOk W env h m x d
 cl : ∀ n c,(n,c) ∈ env.cells -> (∃ v,h.IsCell c v) ∧ c ∉ W
 lo : env.locals ∉ W
structure Cx where
 w : World
 hb : Heap
 W : List Addr
 U : List Addr
 A : Around
 env : Env
noncomputable abbrev PR := PySem.Challenge.pw_ik0052_01
theorem neC : Nonempty Cx := neW.elim fun w => ⟨⟨w,default,[],[],{},default⟩⟩
noncomputable abbrev Cx.M (c : Cx) : Model := model PR c.w
structure Room (A : Around) (n : Nat) : Prop where
 hh : A.handled = none
 dp : A.depth + n ≤ 600
 un : A.units + 20 * n ≤ 6000
structure Cx.Ok (c : Cx) (n : Nat) : Prop where
 gr : Gr c.w c.hb
 env : EnvOk c.hb c.env
 room : Room c.A n
 sub : ∀ b ∈ c.U,b ∈ c.W
 wh : ∀ b ∈ c.W,c.hb.get? b = none
theorem Cx.Ok.uh {c : Cx} {n : Nat} (ok : c.Ok n) : ∀ b ∈ c.U,c.hb.get? b = none := fun b q => ok.wh b (ok.sub b q)
structure Sta (c : Cx) (I : Asr c.W) (ρ : List (Str × D)) (s : Shared) : Prop where
 loc : Loc c.hb c.W c.env ρ s.heap
 win : WIn c.W s.heap
 asr : I.P s.heap
theorem isCell_move {h h' : Heap} {a : Addr} {v : Option Value} (x : h.IsCell a v) (k : ∀ o,h.get? a = some o -> h'.get? a = some o) : h'.IsCell a v := let ⟨o,e,r⟩ := x;⟨o,k o e,r⟩
theorem noSeq_cell {h : Heap} {a : Addr} {v : Option Value} (x : h.IsCell a v) : NoSeq h a := fun o e xs n q => by
 obtain ⟨o',e',d⟩ := x
 rw [e] at e';cases e';rw [d] at q;cases q
theorem noSeq_ns {h : Heap} {a : Addr} {m : Str -> Option Value} (x : h.Ns a m) : NoSeq h a := fun o e xs n q => by
 obtain ⟨o',es,ep,e',d,_⟩ := x
 rw [e] at e';cases e';rw [d] at q;cases q
theorem Loc.keeps {hb h h' : Heap} {W : List Addr} {env : Env} {ρ : List (Str × D)} (x : Loc hb W env ρ h) (k : ∀ b o,h.get? b = some o -> h'.get? b = some o) : Loc hb W env ρ h' := by
 obtain ⟨⟨m,F,hv⟩,cl,lo⟩ := x
 refine ⟨⟨m,⟨F.ns.keeps k,fun b o e => k b o (F.keep b o e),F.above⟩,fun x d e => ?_⟩,fun n c hc => ⟨let ⟨v,y⟩ := (cl n c hc).1;⟨v,isCell_move y (k c)⟩,(cl n c hc).2⟩,lo⟩
 rcases hv x d e with ⟨h1,v,h2,h3⟩ | ⟨h1,a,v,h2,h3,h4⟩
 ·exact .inl ⟨h1,v,h2,h3.move (V := []) (fun b o _ e => k b o e) fun _ q => nomatch q⟩
 ·exact .inr ⟨h1,a,v,h2,isCell_move h3 (k a),h4.move (V := []) (fun b o _ e => k b o e) fun _ q => nomatch q⟩
theorem Sta.ext {c : Cx} {I : Asr c.W} {ρ : List (Str × D)} {s s' : Shared} (x : Sta c I ρ s) (e : Ext [] s s') : Sta c I ρ s' := ⟨x.loc.keeps e.all,x.win.ext e,I.st [] _ _ e.keep (fun _ q => nomatch q) x.asr⟩
noncomputable abbrev NoE : Value -> Shared -> Prop := fun _ _ => False
noncomputable def JE (c : Cx) (I : Asr c.W) (ρ : List (Str × D)) (e : Expr) (d : D) : Prop :=
 ∀ s,Sta c I ρ s -> wpAny c.M c.A (eval e c.env) (fun v s' => Ext [] s s' ∧ Rel c.W s'.heap d v) NoE s
noncomputable def JT (c : Cx) (I : Asr c.W) (ρ : List (Str × D)) (e : Expr) (b : Bool) : Prop :=
 ∀ s,Sta c I ρ s -> wpAny c.M c.A (isTrue e c.env (eval e c.env)) (fun v s' => Ext [] s s' ∧ v = b) NoE s
noncomputable def JEs (c : Cx) (I : Asr c.W) (ρ : List (Str × D)) (es : List Expr) (ds : List D) : Prop :=
 ∀ pos s,Sta c I ρ s -> wpAny c.M c.A (spliced (backTo pos (starEach es c.env))) (fun vs s' => Ext [] s s' ∧ Rels c.W s'.heap ds vs) NoE s
section
variable {c : Cx} {I : Asr c.W} {ρ : List (Str × D)} {n : Nat}
end
end
local macro_rules | `(tactic| walk_at "ne") => `(tactic| exact neI _)
local macro_rules | `(tactic| walk_at "ne") => `(tactic| exact neD)
local macro_rules | `(tactic| walk_at "ne") => `(tactic| exact neC)
section
theorem lk0 {x : Str} {d : D} {ρ : List (Str × D)} : List.lookup x ((x,d) :: ρ) = some d := by simp [List.lookup]
section
variable {c : Cx} {I : Asr c.W} {ρ : List (Str × D)} {n : Nat}
theorem JE.cint {i : Int} {k : Nat} {pos : Pos} : JE c I ρ (.Constant (.int i) k pos) (.int i) := fun s _ =>
 wpAny_Constant_int ⟨Ext.tok _ _ _,by unfold Rel;exact ⟨_,rfl⟩⟩
theorem JE.cstr {x : Str} {k : Nat} {pos : Pos} : JE c I ρ (.Constant (.str x) k pos) (.str x) := fun s _ => by
 show wpAny _ _ (mkText x) _ _ s
 exact wpAny_mkText ⟨Ext.tok _ _ _,by unfold Rel;exact ⟨_,rfl⟩⟩
theorem JE.cnon {k : Nat} {pos : Pos} : JE c I ρ (.Constant .none k pos) .non := fun s _ =>
 Constant_none ⟨Ext.refl _ _,by unfold Rel;rfl⟩
theorem load_var {x : Str} {d : D} (ok : c.Ok n) (h : ρ.lookup x = some d) {s : Shared} (S : Sta c I ρ s) : wpAny c.M c.A (loadName c.env x) (fun v s' => Ext [] s s' ∧ Rel c.W s'.heap d v) NoE s := by
 obtain ⟨m,F,hv⟩ := S.loc.fr
 rcases hv x d h with ⟨h1,v,h2,h3⟩ | ⟨h1,a,v,h2,h3,h4⟩
 ·exact wpAny_loadName_local ok.env.kind h1 F.ns h2 ⟨Ext.refl _ _,h3⟩
 ·rcases h1 with h1 | ⟨h1,hc⟩
  ·exact wpAny_loadName_cell ok.env.kind h1 h2 h3 ⟨Ext.refl _ _,h4⟩
  ·exact wpAny_loadName_free ok.env.kind h1 h2 h3 ⟨Ext.refl _ _,h4⟩ hc
theorem JE.var {x : Str} {pos : Pos} {d : D} (ok : c.Ok n) (h : ρ.lookup x = some d) (hd : (x == ("__debug__" : Str)) = false := by decide) : JE c I ρ (.Name x pos) d := fun _ S =>
 wpAny_Name (load_var ok h S) hd
theorem kx_some {w : World} {hb : Heap} {x : Str} {v : Value} (g : Gr w hb) (e : nsIn (hd.heap_1 w.params) mainGlobals x = some (some v)) : ∃ mg,hb.Ns mainGlobals mg ∧ mg x = some v := by
 obtain ⟨p,loose,mg,mb,T⟩ := g.T
 exact ⟨mg,T.g,mg_of g.X T.g e⟩
theorem load_glob {x : Str} {v : Value} (ok : c.Ok n) (e : nsIn (hd.heap_1 c.w.params) mainGlobals x = some (some v)) (hk : c.env.kindOf x = some .globalImplicit) {s : Shared} (S : Sta c I ρ s) {Q : Value -> Shared -> Prop} {E : Value -> Shared -> Prop}
  (h : Q v s) : wpAny c.M c.A (loadName c.env x) Q E s := by
 revert c I ρ n x v s Q E;intros c I ρ n x v ok e hk s S Q E h
 obtain @⟨mg,hg,hv⟩ := kx_some ok.gr e
 obtain @⟨m,F,_⟩ := S.loc.fr
 unfold loadName
 simp only [Env.blockKind,ok.env.kind,hk,ScopeKind.isAnnotationScope,Bool.false_and,Bool.false_eq_true,if_false]
 unfold loadGlobal
 rw [ok.env.gl]
 refine wpAny_bind (wpAny_nsGet (hg.keeps F.keep) ?_)
 rw [hv]
 exact wpAny_pure h
theorem JE.glob {x : Str} {pos : Pos} {v : Value} (ok : c.Ok n) (e : nsIn (hd.heap_1 c.w.params) mainGlobals x = some (some v)) (hk : c.env.kindOf x = some .globalImplicit) (hd : (x == ("__debug__" : Str)) = false := by decide) : JE c I ρ (.Name x pos) (.val v) := fun _ S =>
 wpAny_Name (load_glob ok e hk S ⟨Ext.refl _ _,by unfold Rel;rfl⟩) hd
theorem JE.bltn {x : Str} {pos : Pos} {v : Value} (ok : c.Ok n) (e : nsIn (hd.heap_1 c.w.params) mainGlobals x = some none) (hv : bootBuiltins x = some v) (hn : x ≠ "__name__") (hk : c.env.kindOf x = some .globalImplicit)
  (hd : (x == ("__debug__" : Str)) = false := by decide) : JE c I ρ (.Name x pos) (.val v) := by
 revert c I ρ n x pos v;intros c I ρ n x pos v ok e hv hn hk hd
 intros s S
 obtain @⟨p,loose,mg,mb,T⟩ := ok.gr.T
 obtain @⟨m,F,_⟩ := S.loc.fr
 refine wpAny_Name ?_ hd
 unfold loadName
 simp only [Env.blockKind,ok.env.kind,hk,ScopeKind.isAnnotationScope,Bool.false_and,Bool.false_eq_true,if_false]
 unfold loadGlobal
 rw [ok.env.gl,ok.env.bi]
 refine wpAny_bind (wpAny_nsGet (T.g.keeps F.keep) ?_)
 rw [mg_none_of ok.gr.X T.g e]
 refine wpAny_bind (wpAny_nsGet (T.b.keeps F.keep) ?_)
 rw [T.builtins x hn,hv]
 exact wpAny_pure ⟨Ext.refl _ _,by unfold Rel;rfl⟩
noncomputable def BinR (f : Value -> Value -> Sem Value) (a b d : D) : Prop := ∀ (w : World) (W : List Addr) (A : Around) (s : Shared) (x y : Value),A.handled = none -> A.units < 9000 -> WIn W s.heap -> Rel W s.heap a x -> Rel W s.heap b y ->
 wpAny (model PR w) A (f x y) (fun v s' => Ext [] s s' ∧ Rel W s'.heap d v) NoE s
noncomputable def UnR (f : Value -> Sem Value) (a d : D) : Prop := ∀ (w : World) (W : List Addr) (A : Around) (s : Shared) (x : Value),A.handled = none -> A.units < 9000 -> WIn W s.heap -> Rel W s.heap a x ->
 wpAny (model PR w) A (f x) (fun v s' => Ext [] s s' ∧ Rel W s'.heap d v) NoE s
noncomputable def TruR (a : D) (b : Bool) : Prop := ∀ (w : World) (W : List Addr) (A : Around) (s : Shared) (x : Value),A.handled = none -> A.units < 9000 -> Rel W s.heap a x ->
 wpAny (model PR w) A (truthy x) (fun v s' => Ext [] s s' ∧ v = b) NoE s
theorem Cx.Ok.un (ok : c.Ok n) : c.A.units < 9000 := by have := ok.room.un;omega
theorem fin {α : Type} {M : Model} {A : Around} {t : Sem α} {Q Q' : α -> Shared -> Prop} {E : Value -> Shared -> Prop} {s : Shared} (h : wpAny M A t Q NoE s) (k : ∀ a s',Q a s' -> Q' a s') : wpAny M A t Q' E s := wpAny_mono h k fun _ _ x => x.elim
theorem JE.bin {op : Operator} {l r : Expr} {pos : Pos} {a b d : D} (ok : c.Ok n) (h1 : JE c I ρ l a) (h2 : JE c I ρ r b) (h3 : BinR (binaryOp op) a b d) : JE c I ρ (.BinOp l op r pos) d := fun s S => by
 refine wpAny_BinOp (fin (h1 s S) fun v s1 x => ?_)
 refine fin (h2 s1 (S.ext x.1)) fun u s2 y => ?_
 exact fin (h3 c.w c.W c.A s2 v u ok.room.hh ok.un ((S.ext x.1).ext y.1).win (x.2.ext y.1) y.2) fun z s3 q => ⟨(x.1.trans y.1).trans q.1,q.2⟩
theorem JE.cmp {op : CmpOp} {l r : Expr} {pos : Pos} {a b d : D} (ok : c.Ok n) (h1 : JE c I ρ l a) (h2 : JE c I ρ r b) (h3 : BinR (compareOp op) a b d) (hm : behindInMarks op r = false := by with_unfolding_all rfl) :
  JE c I ρ (.Compare l [op] [r] pos) d := fun s S => by
 refine wpAny_Compare1 (fin (h1 s S) fun v s1 x => ?_) hm
 refine fin (h2 s1 (S.ext x.1)) fun u s2 y => ?_
 exact fin (h3 c.w c.W c.A s2 v u ok.room.hh ok.un ((S.ext x.1).ext y.1).win (x.2.ext y.1) y.2) fun z s3 q => ⟨(x.1.trans y.1).trans q.1,q.2⟩
theorem JT.cmp {op : CmpOp} {l r : Expr} {pos : Pos} {a b : D} {t : Bool} (ok : c.Ok n) (h1 : JE c I ρ l a) (h2 : JE c I ρ r b) (h3 : BinR (compareOp op) a b (.bool t)) (hm : behindInMarks op r = false := by with_unfolding_all rfl) :
  JT c I ρ (.Compare l [op] [r] pos) t := fun s S => by
 refine wpAny_isTrue_Compare1 (fin (h1 s S) fun v s1 x => ?_) hm
 refine fin (h2 s1 (S.ext x.1)) fun u s2 y => ?_
 refine fin (h3 c.w c.W c.A s2 v u ok.room.hh ok.un ((S.ext x.1).ext y.1).win (x.2.ext y.1) y.2) fun z s3 q => ?_
 have hz := q.2
 unfold Rel at hz
 subst hz
 exact wpAny_truthy_bool ⟨(x.1.trans y.1).trans q.1,rfl⟩
theorem JE.un {op : UnaryOp} {e : Expr} {pos : Pos} {a d : D} (ok : c.Ok n) (h1 : JE c I ρ e a) (h3 : UnR (unaryOp op) a d) : JE c I ρ (.UnaryOp op e pos) d := fun s S =>
 wpAny_UnaryOp (fin (h1 s S) fun v s1 x => fin (h3 c.w c.W c.A s1 v ok.room.hh ok.un (S.ext x.1).win x.2) fun z s3 q => ⟨x.1.trans q.1,q.2⟩)
theorem JT.not {e : Expr} {pos : Pos} {t : Bool} (h1 : JT c I ρ e t) : JT c I ρ (.UnaryOp .Not e pos) (!t) := fun s S =>
 isTrue_not (fin (h1 s S) fun v s1 x => ⟨x.1,by rw [x.2]⟩)
theorem JT.andnil {pos : Pos} : JT c I ρ (.BoolOp .And [] pos) true := fun s _ => isTrue_and_nil ⟨Ext.refl _ _,rfl⟩
theorem JT.ornil {pos : Pos} : JT c I ρ (.BoolOp .Or [] pos) false := fun s _ => isTrue_or_nil ⟨Ext.refl _ _,rfl⟩
theorem JT.and {e : Expr} {r : List Expr} {pos : Pos} {t u : Bool} (h1 : JT c I ρ e t) (h2 : t = true -> JT c I ρ (.BoolOp .And r pos) u) : JT c I ρ (.BoolOp .And (e :: r) pos) (t && u) := fun s S => by
 refine isTrue_and (fin (h1 s S) fun v s1 x => ?_)
 obtain ⟨x1,rfl⟩ := x
 cases v with
 | false => exact ⟨x1,rfl⟩
 | true => exact fin (h2 rfl s1 (S.ext x1)) fun _ _ q => ⟨x1.trans q.1,by rw [q.2];rfl⟩
theorem JT.or {e : Expr} {r : List Expr} {pos : Pos} {t u : Bool} (h1 : JT c I ρ e t) (h2 : t = false -> JT c I ρ (.BoolOp .Or r pos) u) : JT c I ρ (.BoolOp .Or (e :: r) pos) (t || u) := fun s S => by
 refine isTrue_or (fin (h1 s S) fun v s1 x => ?_)
 obtain ⟨x1,rfl⟩ := x
 cases v with
 | true => exact ⟨x1,rfl⟩
 | false => exact fin (h2 rfl s1 (S.ext x1)) fun _ _ q => ⟨x1.trans q.1,by rw [q.2];rfl⟩
theorem JT.plain {e : Expr} {d : D} {t : Bool} (ok : c.Ok n) (h1 : JE c I ρ e d) (h2 : TruR d t)
  (he : ∀ env whole,isTrue e env whole = (do let v ← whole;standAt e.pos;holding [v] (truthy v)) := by intro _ _;rfl) : JT c I ρ e t := fun s S =>
 isTrue_plain (fin (h1 s S) fun v s1 x => fin (h2 c.w c.W c.A s1 v ok.room.hh ok.un x.2) fun _ _ q => ⟨x.1.trans q.1,q.2⟩) (he _ _)
theorem JE.ifx {t a b : Expr} {pos : Pos} {q : Bool} {d : D} (h1 : JT c I ρ t q) (h2 : q = true -> JE c I ρ a d) (h3 : q = false -> JE c I ρ b d) : JE c I ρ (.IfExp t a b pos) d := fun s S => by
 refine IfExp_ (fin (h1 s S) fun v s1 x => ?_)
 obtain ⟨x1,rfl⟩ := x
 cases v with
 | true => exact fin (h2 rfl s1 (S.ext x1)) fun _ _ q => ⟨x1.trans q.1,q.2⟩
 | false => exact fin (h3 rfl s1 (S.ext x1)) fun _ _ q => ⟨x1.trans q.1,q.2⟩
theorem JEs.nil : JEs c I ρ [] [] := fun _ s _ => spliced_none ⟨Ext.refl _ _,by unfold Rels;rfl⟩
theorem JEs.cons {e : Expr} {es : List Expr} {d : D} {ds : List D} (h1 : JE c I ρ e d) (h2 : JEs c I ρ es ds) (he : starEach (e :: es) c.env = (false,eval e c.env) :: starEach es c.env := by rfl) : JEs c I ρ (e :: es) (d :: ds) := fun pos s S => by
 refine spliced_more (fin (h1 s S) fun v s1 x => ?_) he
 exact fin (h2 pos s1 (S.ext x.1)) fun vs s2 y => ⟨x.1.trans y.1,by unfold Rels;exact ⟨v,vs,rfl,x.2.ext y.1,y.2⟩⟩
theorem Rels.length {W : List Addr} {h : Heap} : ∀ {ds : List D} {vs : List Value},Rels W h ds vs -> vs.length = ds.length
 | [],_,x => by obtain rfl : _ = [] := x;rfl
 | _ :: ds,_,x => by obtain ⟨v,r,rfl,_,y⟩ := x;simp [Rels.length y]
theorem Rels.get {W : List Addr} {h : Heap} : ∀ {ds : List D} {vs : List Value} {i : Nat} {d : D},Rels W h ds vs -> ds[i]? = some d -> ∃ v,vs[i]? = some v ∧ Rel W h d v
 | [],_,i,d,_,e => by simp at e
 | d' :: ds,_,0,d,x,e => by obtain ⟨v,r,rfl,a,_⟩ := x;simp at e;subst e;exact ⟨v,rfl,a⟩
 | d' :: ds,_,i + 1,d,x,e => by obtain ⟨v,r,rfl,_,y⟩ := x;simp at e;simpa using Rels.get y e
theorem new_tuple {w : World} {W : List Addr} {A : Around} {s : Shared} {ds : List D} {vs : List Value} (hW : WIn W s.heap) (x : Rels W s.heap ds vs) (hn : ds.length ≤ 1000) :
  wpAny (model PR w) A (newTuple vs) (fun v s' => Ext [] s s' ∧ Rel W s'.heap (.tup ds) v) NoE s := by
 refine wpAny_newTuple ⟨Ext.push,?_⟩ (by have := x.length;rw [sizeLine_eq];omega)
 unfold Rel
 exact ⟨_,vs,rfl,hW.fresh,⟨_,Heap.get?_push_size _ rfl,rfl,_,rfl⟩,x.ext Ext.push⟩
theorem new_list {w : World} {W : List Addr} {A : Around} {s : Shared} {ds : List D} {vs : List Value} (hW : WIn W s.heap) (x : Rels W s.heap ds vs) (hn : ds.length ≤ 1000) :
  wpAny (model PR w) A (newList vs) (fun v s' => Ext [] s s' ∧ Rel W s'.heap (.lst ds) v) NoE s := by
 refine wpAny_newList ⟨Ext.push,?_⟩ (by have := x.length;rw [sizeLine_eq];omega)
 unfold Rel
 exact ⟨_,vs,rfl,hW.fresh,⟨_,Heap.get?_push_size _ rfl,rfl,_,rfl⟩,x.ext Ext.push⟩
theorem JE.tup {es : List Expr} {k : Nat} {pos : Pos} {ds : List D} (h : JEs c I ρ es ds) (hn : ds.length ≤ 1000 := by simp) : JE c I ρ (.Tuple es k pos) (.tup ds) := fun s S =>
 Tuple_ (fin (h pos s S) fun vs s1 x => fin (new_tuple (S.ext x.1).win x.2 hn) fun _ _ q => ⟨x.1.trans q.1,q.2⟩)
theorem JE.lst {es : List Expr} {pos : Pos} {ds : List D} (h : JEs c I ρ es ds) (hn : ds.length ≤ 1000 := by simp) : JE c I ρ (.List es pos) (.lst ds) := fun s S =>
 List_ (fin (h pos s S) fun vs s1 x => fin (new_list (S.ext x.1).win x.2 hn) fun _ _ q => ⟨x.1.trans q.1,q.2⟩)
theorem JE.sub {v i : Expr} {pos : Pos} {a b d : D} (ok : c.Ok n) (h1 : JE c I ρ v a) (h2 : JE c I ρ i b) (h3 : BinR (subscriptTail v i) a b d) : JE c I ρ (.Subscript v i pos) d := fun s S => by
 refine Subscript_ (fin (h1 s S) fun v s1 x => ?_)
 refine fin (h2 s1 (S.ext x.1)) fun u s2 y => ?_
 exact fin (h3 c.w c.W c.A s2 v u ok.room.hh ok.un ((S.ext x.1).ext y.1).win (x.2.ext y.1) y.2) fun z s3 q => ⟨(x.1.trans y.1).trans q.1,q.2⟩
end
section
end
end
section
theorem rint {W : List Addr} {h : Heap} {i : Int} {v : Value} (x : Rel W h (.int i) v) : ∃ t,v = .int i t := x
theorem rstr {W : List Addr} {h : Heap} {i : Str} {v : Value} (x : Rel W h (.str i) v) : ∃ t,v = .str i t := x
theorem rbool {W : List Addr} {h : Heap} {i : Bool} {v : Value} (x : Rel W h (.bool i) v) : v = .bool i := x
theorem rval {W : List Addr} {h : Heap} {i : Value} {v : Value} (x : Rel W h (.val i) v) : v = i := x
theorem rnon {W : List Addr} {h : Heap} {v : Value} (x : Rel W h .non v) : v = .none := x
theorem rtup {W : List Addr} {h : Heap} {l : List D} {v : Value} (x : Rel W h (.tup l) v) : ∃ a vs,v = .ref a ∧ a ∉ W ∧ IsTup h a vs.toArray ∧ Rels W h l vs := x
theorem rlst {W : List Addr} {h : Heap} {l : List D} {v : Value} (x : Rel W h (.lst l) v) : ∃ a vs,v = .ref a ∧ a ∉ W ∧ h.IsList a vs.toArray ∧ Rels W h l vs := x
theorem mint {W : List Addr} {h : Heap} {i : Int} {t : Tok} : Rel W h (.int i) (.int i t) := by unfold Rel;exact ⟨t,rfl⟩
theorem mstr {W : List Addr} {h : Heap} {i : Str} {t : Tok} : Rel W h (.str i) (.str i t) := by unfold Rel;exact ⟨t,rfl⟩
theorem mbool {W : List Addr} {h : Heap} {i : Bool} : Rel W h (.bool i) (.bool i) := by unfold Rel;rfl
theorem mval {W : List Addr} {h : Heap} {i : Value} : Rel W h (.val i) i := by unfold Rel;rfl
theorem mnon {W : List Addr} {h : Heap} : Rel W h .non .none := by unfold Rel;rfl
section
variable {a b : Int} {x y : Str}
theorem BinR.add : BinR (binaryOp .Add) (.int a) (.int b) (.int (a + b)) := fun w W A s u v hh hu hW r1 r2 => by
 obtain ⟨t,rfl⟩ := rint r1;obtain ⟨t',rfl⟩ := rint r2
 exact PyProof.Rows.add_int ⟨Ext.tok _ _ _,mint⟩
theorem BinR.sub : BinR (binaryOp .Sub) (.int a) (.int b) (.int (a - b)) := fun w W A s u v hh hu hW r1 r2 => by
 obtain ⟨t,rfl⟩ := rint r1;obtain ⟨t',rfl⟩ := rint r2
 exact PyProof.Rows.sub_int ⟨Ext.tok _ _ _,mint⟩
theorem BinR.mul (h : IntMulOk a b) : BinR (binaryOp .Mult) (.int a) (.int b) (.int (a * b)) := fun w W A s u v hh hu hW r1 r2 => by
 obtain ⟨t,rfl⟩ := rint r1;obtain ⟨t',rfl⟩ := rint r2
 exact PyProof.Rows.mul_int ⟨Ext.tok _ _ _,mint⟩ h
theorem BinR.fdiv (h : b ≠ 0) (h2 : b.natAbs < 1073741824) : BinR (binaryOp .FloorDiv) (.int a) (.int b) (.int (a.fdiv b)) := fun w W A s u v hh hu hW r1 r2 => by
 obtain ⟨t,rfl⟩ := rint r1;obtain ⟨t',rfl⟩ := rint r2
 exact PyProof.Rows.floordiv_int h ⟨Ext.tok _ _ _,mint⟩ (.inl (PyProof.noPylong_small h2))
theorem BinR.fmod (h : b ≠ 0) : BinR (binaryOp .Mod) (.int a) (.int b) (.int (a.fmod b)) := fun w W A s u v hh hu hW r1 r2 => by
 obtain ⟨t,rfl⟩ := rint r1;obtain ⟨t',rfl⟩ := rint r2
 exact PyProof.Rows.mod_int' h ⟨Ext.tok _ _ _,mint⟩
theorem BinR.div (h : 0 < b) (h2 : b < 1073741824) : BinR (binaryOp .FloorDiv) (.int a) (.int b) (.int (a / b)) := by
 rw [← Int.fdiv_eq_ediv_of_nonneg a (Int.le_of_lt h)];exact BinR.fdiv (by omega) (by omega)
theorem BinR.mod (h : 0 < b) : BinR (binaryOp .Mod) (.int a) (.int b) (.int (a % b)) := by
 rw [← Int.fmod_eq_emod_of_nonneg a (Int.le_of_lt h)];exact BinR.fmod (by omega)
theorem BinR.pow (h0 : 0 ≤ b) (h : (Builtin.Int.intBits a : Int) * b ≤ 2 ^ 27) : BinR (binaryOp .Pow) (.int a) (.int b) (.int (a ^ b.toNat)) := fun w W A s u v hh hu hW r1 r2 => by
 obtain ⟨t,rfl⟩ := rint r1;obtain ⟨t',rfl⟩ := rint r2
 exact PyProof.Rows.pow_int h0 h ⟨Ext.tok _ _ _,mint⟩
theorem BinR.and : BinR (binaryOp .BitAnd) (.int a) (.int b) (.int (Builtin.bitAnd a b)) := fun w W A s u v hh hu hW r1 r2 => by
 obtain ⟨t,rfl⟩ := rint r1;obtain ⟨t',rfl⟩ := rint r2
 exact PyProof.Rows.and_int ⟨Ext.tok _ _ _,mint⟩
theorem BinR.lt : BinR (compareOp .Lt) (.int a) (.int b) (.bool (decide (a < b))) := fun w W A s u v hh hu hW r1 r2 => by
 obtain ⟨t,rfl⟩ := rint r1;obtain ⟨t',rfl⟩ := rint r2
 exact PyProof.Rows.lt_int ⟨Ext.refl _ _,mbool⟩
theorem BinR.gt : BinR (compareOp .Gt) (.int a) (.int b) (.bool (decide (b < a))) := fun w W A s u v hh hu hW r1 r2 => by
 obtain ⟨t,rfl⟩ := rint r1;obtain ⟨t',rfl⟩ := rint r2
 exact PyProof.Rows.gt_int ⟨Ext.refl _ _,mbool⟩
theorem BinR.le : BinR (compareOp .LtE) (.int a) (.int b) (.bool (decide (a ≤ b))) := fun w W A s u v hh hu hW r1 r2 => by
 obtain ⟨t,rfl⟩ := rint r1;obtain ⟨t',rfl⟩ := rint r2
 exact PyProof.Rows.le_int ⟨Ext.refl _ _,mbool⟩
theorem BinR.eq : BinR (compareOp .Eq) (.int a) (.int b) (.bool (a == b)) := fun w W A s u v hh hu hW r1 r2 => by
 obtain ⟨t,rfl⟩ := rint r1;obtain ⟨t',rfl⟩ := rint r2
 exact PyProof.Rows.eq_int ⟨Ext.refl _ _,mbool⟩
theorem BinR.ne : BinR (compareOp .NotEq) (.int a) (.int b) (.bool (a != b)) := fun w W A s u v hh hu hW r1 r2 => by
 obtain ⟨t,rfl⟩ := rint r1;obtain ⟨t',rfl⟩ := rint r2
 exact PyProof.Rows.ne_int ⟨Ext.refl _ _,mbool⟩
theorem UnR.neg : UnR (unaryOp .USub) (.int a) (.int (-a)) := fun w W A s u hh hu hW r1 => by
 obtain ⟨t,rfl⟩ := rint r1
 exact PyProof.Rows.neg_int ⟨Ext.tok _ _ _,mint⟩
theorem BinR.cat (h : x.length + y.length ≤ 16000000) : BinR (binaryOp .Add) (.str x) (.str y) (.str (x ++ y)) := fun w W A s u v hh hu hW r1 r2 => by
 obtain ⟨t,rfl⟩ := rstr r1;obtain ⟨t',rfl⟩ := rstr r2
 exact SB.add (fun _ _ => ⟨Ext.tok _ _ _,mstr⟩) (by rw [sizeLine_eq];omega)
theorem BinR.seq : BinR (compareOp .Eq) (.str x) (.str y) (.bool (x == y)) := fun w W A s u v hh hu hW r1 r2 => by
 obtain ⟨t,rfl⟩ := rstr r1;obtain ⟨t',rfl⟩ := rstr r2
 exact PyProof.Rows.eq_str ⟨Ext.refl _ _,mbool⟩
theorem TruR.bool {q : Bool} : TruR (.bool q) q := fun w W A s u hh hu r => by
 rw [rbool r];exact wpAny_truthy_bool ⟨Ext.refl _ _,rfl⟩
theorem TruR.str (h : x.length ≤ 16777216) : TruR (.str x) (x.length != 0) := fun w W A s u hh hu r => by
 obtain ⟨t,rfl⟩ := rstr r;exact P.truthy_str (by omega) ⟨Ext.tok _ _ _,by rw [Bool.eq_iff_iff];simp⟩
theorem TruR.lst {l : List D} (h : l.length ≤ 16777216) : TruR (.lst l) (!l.isEmpty) := by
 revert l;intros l h
 intros w W A s u hh hu r
 obtain @⟨q,vs,rfl,_,hl,hr⟩ := rlst r
 have e := hr.length
 refine wpAny_truthy_list hl (by simp;omega) ⟨Ext.tok _ _ _,?_⟩
 cases l <;> cases vs <;> simp_all
theorem SubR.str {v k : Expr} {i : Int} (h1 : -(x.length : Int) ≤ i) (h2 : i < x.length) (h3 : x.length ≤ 16777216)
  (hs : ∀ p q,subscripted k false p q = operate [p,q] (getItem p q) := by intro _ _;with_unfolding_all rfl) : BinR (subscriptTail v k) (.str x) (.int i) (.str (Txt.item x i)) := fun w W A s u z hh hu hW r1 r2 => by
 obtain ⟨t,rfl⟩ := rstr r1;obtain ⟨t',rfl⟩ := rint r2
 refine tail_any (typeIs_str _ _ _) F.slot_str_getitem.lookup (SB.getItem ?_ (charAt_isSome h1 h2) ⟨Ext.tok _ _ _,mstr⟩) (hs _ _)
 unfold fitsSsize
 simp;omega
theorem SubR.lst {v k : Expr} {l : List D} {i : Int} {d : D} (h1 : 0 ≤ i) (hx : l[i.toNat]? = some d) (h3 : l.length ≤ 16777216)
  (hs : ∀ p q,subscripted k false p q = operate [p,q] (getItem p q) := by intro _ _;with_unfolding_all rfl) : BinR (subscriptTail v k) (.lst l) (.int i) d := fun w W A s u z hh hu hW r1 r2 => by
 obtain ⟨q,vs,rfl,_,hl,hr⟩ := rlst r1;obtain ⟨t',rfl⟩ := rint r2
 obtain ⟨y,hy,ry⟩ := hr.get hx
 have := (List.getElem?_eq_some_iff.mp hx).1
 refine tail_any hl.typeIs slot_list_getitem.lookup (wpAny_getItem_list hl h1 (by omega) (by simpa using hy) ⟨Ext.refl _ _,ry⟩) (hs _ _)
theorem SubR.tup {v k : Expr} {l : List D} {i : Int} {j : Nat} {d : D} (hj : seqIndex? i l.length = some j) (hx : l[j]? = some d) (hlo : -(2 ^ 63) ≤ i) (hhi : i < 2 ^ 63)
  (hs : ∀ p q,subscripted k false p q = operate [p,q] (getItem p q) := by intro _ _;with_unfolding_all rfl) : BinR (subscriptTail v k) (.tup l) (.int i) d := fun w W A s u z hh hu hW r1 r2 => by
 obtain ⟨q,vs,rfl,_,hl,hr⟩ := rtup r1;obtain ⟨t',rfl⟩ := rint r2
 obtain ⟨y,hy,ry⟩ := hr.get hx
 refine tail_any hl.typeIs slot_tuple_getitem.lookup (PyProof.Rows.getItem_tuple hl hlo hhi (by simpa [hr.length] using hj) (by simpa using hy) ⟨Ext.refl _ _,ry⟩) (hs _ _)
end
end
section
noncomputable def FV (env : Env) : List Addr := env.locals :: env.cells.map (·.2)
noncomputable abbrev Cx.V (c : Cx) : List Addr := c.U ++ FV c.env
theorem Loc.noSeq {hb h : Heap} {W : List Addr} {env : Env} {ρ : List (Str × D)} (x : Loc hb W env ρ h) : ∀ b ∈ FV env,b ∉ W ∧ NoSeq h b := fun b q => by
 rcases List.mem_cons.mp q with rfl | q
 ·obtain ⟨m,F,_⟩ := x.fr
  exact ⟨x.lo,noSeq_ns F.ns⟩
 ·obtain ⟨⟨n,a⟩,hm,rfl⟩ := List.mem_map.mp q
  obtain ⟨⟨v,y⟩,z⟩ := x.cl n a hm
  exact ⟨z,noSeq_cell y⟩
theorem Loc.live {hb h : Heap} {W : List Addr} {env : Env} {ρ : List (Str × D)} (x : Loc hb W env ρ h) : ∀ b ∈ FV env,∃ o,h.get? b = some o := fun b q => by
 rcases List.mem_cons.mp q with rfl | q
 ·obtain ⟨m,F,_⟩ := x.fr
  obtain ⟨o,_,_,e,_⟩ := F.ns
  exact ⟨o,e⟩
 ·obtain ⟨⟨n,a⟩,hm,rfl⟩ := List.mem_map.mp q
  obtain ⟨⟨v,o,e,_⟩,_⟩ := x.cl n a hm
  exact ⟨o,e⟩
section
variable {c : Cx} {I : Asr c.W} {ρ : List (Str × D)} {n : Nat}
theorem Sta.move {V : List Addr} {s s' : Shared} (S : Sta c I ρ s) (e : Ext V s s') (hV : ∀ b ∈ V,(b ∉ c.W ∧ NoSeq s.heap b) ∧ c.hb.get? b = none ∧ b ∉ FV c.env) : Sta c I ρ s' := by
 obtain ⟨⟨⟨m,F,hv⟩,cl,lo⟩,win,asr⟩ := S
 have out : ∀ b,b ∈ FV c.env -> b ∉ V := fun b q q' => (hV b q').2.2 q
 have rm : ∀ {d : D} {v : Value},Rel c.W s.heap d v -> Rel c.W s'.heap d v := fun x => x.move e.keep fun b q => .inr (hV b q).1.2
 have cm : ∀ {n : Str} {a : Addr},(n,a) ∈ c.env.cells -> ∀ o,s.heap.get? a = some o -> s'.heap.get? a = some o := fun hm o eo => e.keep _ o (out _ (List.mem_cons_of_mem _ (List.mem_map_of_mem (f := (·.2)) hm))) eo
 refine ⟨⟨⟨m,⟨?_,fun b o eb => e.keep b o (fun q => ?_) (F.keep b o eb),F.above⟩,fun x d ex => ?_⟩,fun n a hm => ⟨let ⟨v,y⟩ := (cl n a hm).1;⟨v,isCell_move y (cm hm)⟩,(cl n a hm).2⟩,lo⟩,fun b hb => ?_,I.st V _ _ e.keep (fun b q => (hV b q).1) asr⟩
 ·exact F.ns.at' fun o eo => e.keep _ o (out _ (List.mem_cons_self ..)) eo
 ·have := (hV b q).2.1;rw [eb] at this;cases this
 ·rcases hv x d ex with ⟨h1,v,h2,h3⟩ | ⟨h1,a,v,h2,h3,h4⟩
  ·exact .inl ⟨h1,v,h2,rm h3⟩
  ·exact .inr ⟨h1,a,v,h2,isCell_move h3 (cm (mem_of_lookup h2)),rm h4⟩
 ·obtain ⟨o,eo⟩ := win b hb
  exact ⟨o,e.keep b o (fun q => (hV b q).1.1 hb) eo⟩
theorem store_var {x : Str} {d : D} {v : Value} (ok : c.Ok n) (hk : c.env.kindOf x = some .local ∨ (c.env.kindOf x = some .cell ∧ (c.env.cells.lookup x).isSome = true)) {s : Shared} (S : Sta c I ρ s) (r : Rel c.W s.heap d v) :
  wpAny c.M c.A (storeName c.env x v) (fun _ s' => Ext (FV c.env) s s' ∧ Sta c I ((x,d) :: ρ) s') NoE s := by
 revert c I ρ n x d v s;intros c I ρ n x d v ok hk s S r
 have hp := S.loc.noSeq
 obtain @⟨⟨⟨m,F,hv⟩,cl,lo⟩,win,asr⟩ := S
 have keepHb : ∀ b,b = c.env.locals -> c.hb.get? b = none := fun b q => by
  cases e : c.hb.get? b with
  | none => rfl
  | some o => exact absurd (Nat.lt_of_lt_of_le (Heap.lt_size e) F.above) (by rw [q];exact Nat.lt_irrefl _)
 rcases hk with hk | ⟨hk,hc⟩
 ·refine wpAny_storeName_local hk F.ns (fun h' hn hs => ?_) (by rw [ok.env.kind];rfl)
  have kp : ∀ b o,b ∉ [c.env.locals] -> s.heap.get? b = some o -> h'.get? b = some o := fun b o nb e => hs.extBut b o (fun q => nb (q ▸ List.mem_singleton.mpr rfl)) e
  have e1 : Ext [c.env.locals] s { s with heap := h',toks := s.toks + 1 } := ⟨kp,rfl,fun x => x⟩
  have hV : ∀ b ∈ [c.env.locals],b ∉ c.W ∧ NoSeq s.heap b := fun b q => by rw [List.mem_singleton.mp q];exact hp _ (List.mem_cons_self ..)
  refine ⟨e1.mono fun b q => by rw [List.mem_singleton.mp q];exact List.mem_cons_self ..,⟨⟨_,F.set hn hs,fun y dy ey => ?_⟩,fun n a hm => ⟨let ⟨v,z⟩ := (cl n a hm).1;⟨v,isCell_move z fun o => kp a o (fun q => ok.env.off n a hm (List.mem_singleton.mp q))⟩,(cl n a hm).2⟩,lo⟩,fun b hb => ?_,I.st _ _ _ kp hV asr⟩
  ·have rm : ∀ {d : D} {v : Value},Rel c.W s.heap d v -> Rel c.W h' d v := fun z => z.move kp fun b q => .inr (hV b q).2
   by_cases q : y = x
   ·subst q
    rw [lk0] at ey;cases ey
    exact .inl ⟨hk,v,by simp,rm r⟩
   ·rw [List.lookup_cons,show (y == x) = false from by simpa using q] at ey
    rcases hv y dy ey with ⟨h1,u,h2,h3⟩ | ⟨h1,a,u,h2,h3,h4⟩
    ·exact .inl ⟨h1,u,by simp [q,h2],rm h3⟩
    ·exact .inr ⟨h1,a,u,h2,isCell_move h3 fun o => kp a o (fun q => ok.env.off _ a (mem_of_lookup h2) (List.mem_singleton.mp q)),rm h4⟩
  ·obtain @⟨o,eo⟩ := win b hb
   exact ⟨o,kp b o (fun q => (hV b q).1 hb) eo⟩
 ·obtain @⟨a,ha⟩ := Option.isSome_iff_exists.mp hc
  have hm := mem_of_lookup ha
  obtain @⟨⟨v₀,hcell⟩,hW⟩ := cl x a hm
  have hne : a ≠ c.env.locals := ok.env.off x a hm
  have hfree : c.hb.get? a = none := ok.env.own x a hm hk
  have hin : a ∈ FV c.env := List.mem_cons_of_mem _ (List.mem_map_of_mem (f := (·.2)) hm)
  refine wpAny_storeName_cell ok.env.kind hk ha hcell ?_
  intros h' hc' hs
  have kp : ∀ b o,b ∉ [a] -> s.heap.get? b = some o -> h'.get? b = some o := fun b o nb e => hs.extBut b o (fun q => nb (q ▸ List.mem_singleton.mpr rfl)) e
  have e1 : Ext [a] s { s with heap := h' } := ⟨kp,rfl,fun x => x⟩
  have hV : ∀ b ∈ [a],b ∉ c.W ∧ NoSeq s.heap b := fun b q => by rw [List.mem_singleton.mp q];exact hp _ hin
  have rm : ∀ {d : D} {v : Value},Rel c.W s.heap d v -> Rel c.W h' d v := fun z => z.move kp fun b q => .inr (hV b q).2
  have cm : ∀ {n' : Str} {a' : Addr},(n',a') ∈ c.env.cells -> n' ≠ x -> a' ≠ a := fun hm' hn' q => hn' (name_of_addr ok.env.apart hm' (q ▸ hm))
  refine ⟨e1.mono fun b q => by rw [List.mem_singleton.mp q];exact hin,⟨⟨m,⟨F.ns.at' fun o eo => kp _ o (fun q => hne (List.mem_singleton.mp q).symm) eo,fun b o eb => kp b o (fun q => ?_) (F.keep b o eb),F.above⟩,fun y dy ey => ?_⟩,fun n' a' hm' => ⟨?_,(cl n' a' hm').2⟩,lo⟩,fun b hb => ?_,I.st _ _ _ kp hV asr⟩
  ·rw [List.mem_singleton.mp q,hfree] at eb;cases eb
  ·by_cases q : y = x
   ·subst q
    rw [lk0] at ey;cases ey
    exact .inr ⟨.inl hk,a,v,ha,hc',rm r⟩
   ·rw [List.lookup_cons,show (y == x) = false from by simpa using q] at ey
    rcases hv y dy ey with ⟨h1,u,h2,h3⟩ | ⟨h1,a',u,h2,h3,h4⟩
    ·exact .inl ⟨h1,u,h2,rm h3⟩
    ·exact .inr ⟨h1,a',u,h2,isCell_move h3 fun o => kp a' o (fun z => cm (mem_of_lookup h2) q (List.mem_singleton.mp z)),rm h4⟩
  ·by_cases z : a' = a
   ·subst z;exact ⟨_,hc'⟩
   ·obtain @⟨v',y⟩ := (cl n' a' hm').1
    exact ⟨v',isCell_move y fun o => kp a' o (fun q => z (List.mem_singleton.mp q))⟩
  ·obtain @⟨o,eo⟩ := win b hb
   exact ⟨o,kp b o (fun q => (hV b q).1 hb) eo⟩
end
end
section
noncomputable def StoOk (c : Cx) (x : Str) : Prop := c.env.kindOf x = some .local ∨ (c.env.kindOf x = some .cell ∧ (c.env.cells.lookup x).isSome = true)
theorem kd {c : Cx} {q : Str} {sc : Scope} {L f : Addr} {cd : Value} {x : Str} {k : NameKind} (h : c.env = envOfC q sc L f cd) (e : sc.names.lookup x = some k) : c.env.kindOf x = some k := by rw [h];exact e
theorem kl {c : Cx} {q : Str} {sc : Scope} {L f : Addr} {cd : Value} {x : Str} (h : c.env = envOfC q sc L f cd) (e : sc.names.lookup x = some .local) : StoOk c x := .inl (kd h e)
theorem kc {c : Cx} {q : Str} {sc : Scope} {L f : Addr} {cd : Value} {x : Str} (h : c.env = envOfC q sc L f cd) (e : sc.names.lookup x = some .cell) (e2 : ((cellsFrom (L + 1) sc.names []).lookup x).isSome = true) : StoOk c x :=
 .inr ⟨kd h e,by rw [h];exact e2⟩
theorem not_inter {env : Env} (h : env.scope.kind = .function) : interactive env = false := by unfold interactive;rw [h];rfl
structure Sto (c : Cx) (I : Asr c.W) (s0 : Shared) (ρ : List (Str × D)) (s : Shared) : Prop where
 ext : Ext c.V s0 s
 sta : Sta c I ρ s
noncomputable def JP (c : Cx) (P : Shared -> Prop) (ss : List Stmt) (Q : Flow -> Shared -> Prop) : Prop := ∀ s,P s -> wpAny c.M c.A (execs ss c.env) Q NoE s
noncomputable def Sub (ρ' ρ : List (Str × D)) : Prop := ∀ x d,ρ'.lookup x = some d -> ρ.lookup x = some d
noncomputable def QN (c : Cx) (rest : List Stmt) (Q : Flow -> Shared -> Prop) : Flow -> Shared -> Prop := fun f s' => match f with | .next => wpAny c.M c.A (execs rest c.env) Q NoE s' | f => Q f s'
noncomputable def QP (P : Shared -> Prop) (Q : Flow -> Shared -> Prop) : Flow -> Shared -> Prop := fun f s' => match f with | .next => P s' | f => Q f s'
section
variable {c : Cx} {I I' : Asr c.W} {ρ ρ' : List (Str × D)} {n : Nat} {s0 : Shared} {Q : Flow -> Shared -> Prop} {P P' : Shared -> Prop} {rest : List Stmt}
theorem Sta.weak {s : Shared} (S : Sta c I ρ s) (h : Sub ρ' ρ) : Sta c I ρ' s := by
 obtain ⟨⟨⟨m,F,hv⟩,cl,lo⟩,win,asr⟩ := S
 exact ⟨⟨⟨m,F,fun x d e => hv x d (h x d e)⟩,cl,lo⟩,win,asr⟩
theorem Sto.weak {s : Shared} (S : Sto c I s0 ρ s) (h : Sub ρ' ρ) : Sto c I s0 ρ' s := ⟨S.ext,S.sta.weak h⟩
theorem Sto.ext0 {s s' : Shared} (S : Sto c I s0 ρ s) (e : Ext [] s s') : Sto c I s0 ρ s' := ⟨S.ext.trans e.nil,S.sta.ext e⟩
theorem fv_sub : ∀ b ∈ FV c.env,b ∈ c.V := fun b q => List.mem_append_right _ q
theorem u_sub : ∀ b ∈ c.U,b ∈ c.V := fun b q => List.mem_append_left _ q
theorem JP.mono (h : JP c P rest Q) (k : ∀ s,P' s -> P s) : JP c P' rest Q := fun s x => h s (k s x)
theorem JP.nil (h : ∀ s,P s -> Q .next s) : JP c P [] Q := fun s x => wpAny_execs_nil (h s x)
theorem JP.step {st : Stmt} (h : ∀ s,P s -> wpAny c.M c.A (exec st c.env) (QN c rest Q) NoE s) : JP c P (st :: rest) Q := fun s x => wpAny_execs_cons (wpAny_mono (h s x) (fun f s' y => by cases f <;> exact y) fun _ _ x => x)
theorem JP.next {P : Shared -> Prop} (h : JP c P rest Q) : JP c P [] (QN c rest Q) := JP.nil fun s x => h s x
theorem QN.of {f : Flow} {s : Shared} (h : QP P Q f s) (k : JP c P rest Q) : QN c rest Q f s := by cases f <;> first | exact k s h | exact h
theorem wp_cut {α : Type} {M : Model} {A : Around} {t : Sem α} {Q Q' : α -> Shared -> Prop} {E : Value -> Shared -> Prop} {s : Shared} (h : wpAny M A t Q E s) (k : ∀ a s',Q a s' -> Q' a s') : wpAny M A t Q' E s := wpAny_mono h k fun _ _ x => x
theorem JS.assign {x : Str} {px pos : Pos} {e : Expr} {d : D} (ok : c.Ok n) (h : JE c I ρ e d) (k : JP c (Sto c I s0 ((x,d) :: ρ)) rest Q)
  (hk : StoOk c x)
  (hs : swapsWith e (some (.Name x px)) pos.line c.env = pure false := by rfl) : JP c (Sto c I s0 ρ) (.Assign [.Name x px] e pos :: rest) Q := JP.step fun s S => by
 refine wpAny_Assign_Name (fin (h s S.sta) fun v s1 q => ?_) hs
 have S1 := S.ext0 q.1
 exact fin (store_var ok hk S1.sta q.2) fun _ s2 r => k s2 ⟨S1.ext.trans (r.1.mono fv_sub),r.2⟩
theorem JS.ret {e : Expr} {pos : Pos} {d : D} (h : JE c I ρ e d) (k : ∀ v s,Sto c I s0 ρ s -> Rel c.W s.heap d v -> Q (.ret v) s) : JP c (Sto c I s0 ρ) (.Return (some e) pos :: rest) Q := JP.step fun s S =>
 wpAny_Return_some (fin (h s S.sta) fun v s1 q => k v s1 (S.ext0 q.1) q.2)
theorem JS.ret0 {pos : Pos} (k : ∀ s,Sto c I s0 ρ s -> Q (.ret .none) s) : JP c (Sto c I s0 ρ) (.Return none pos :: rest) Q := JP.step fun s S => wpAny_Return_none (k s S)
theorem JS.iff {t : Expr} {a b : List Stmt} {pos : Pos} {q : Bool} (h : JT c I ρ t q) (k1 : q = true -> JP c (Sto c I s0 ρ) a (QN c rest Q)) (k2 : q = false -> JP c (Sto c I s0 ρ) b (QN c rest Q)) :
  JP c (Sto c I s0 ρ) (.If t a b pos :: rest) Q := JP.step fun s S => by
 refine wpAny_If (fin (h s S.sta) fun v s1 x => ?_)
 obtain ⟨x1,rfl⟩ := x
 cases v with
 | true => exact k1 rfl s1 (S.ext0 x1)
 | false => exact k2 rfl s1 (S.ext0 x1)
theorem JS.ifj {t : Expr} {a b : List Stmt} {pos : Pos} {q : Bool} (h : JT c I ρ t q) (P : Shared -> Prop) (k1 : q = true -> JP c (Sto c I s0 ρ) a (QP P Q)) (k2 : q = false -> JP c (Sto c I s0 ρ) b (QP P Q)) (k : JP c P rest Q) :
  JP c (Sto c I s0 ρ) (.If t a b pos :: rest) Q :=
 JS.iff h (fun e s S => wp_cut (k1 e s S) fun f s' y => QN.of y k) (fun e s S => wp_cut (k2 e s S) fun f s' y => QN.of y k)
theorem JS.brk {pos : Pos} (k : ∀ s,P s -> Q .brk s) : JP c P (.Break pos :: rest) Q := JP.step fun s S => wpAny_Break (k s S)
theorem JS.cont {pos : Pos} (k : ∀ s,P s -> Q .cont s) : JP c P (.Continue pos :: rest) Q := JP.step fun s S => wpAny_Continue (k s S)
noncomputable def XE (c : Cx) (I : Asr c.W) (ρ : List (Str × D)) (e : Expr) (d : D) (I' : Asr c.W) : Prop :=
 ∀ s,Sta c I ρ s -> wpAny c.M c.A (eval e c.env) (fun v s' => Ext c.U s s' ∧ Rel c.W s'.heap d v ∧ Sta c I' ρ s') NoE s
theorem JE.toX {e : Expr} {d : D} (h : JE c I ρ e d) : XE c I ρ e d I := fun s S => fin (h s S) fun v s1 q => ⟨q.1.nil,q.2,S.ext q.1⟩
theorem JS.xex {e : Expr} {pos : Pos} (h : XE c I ρ e .non I') (k : JP c (Sto c I' s0 ρ) rest Q) (ok : c.Ok n) (hs : swapsWith e none pos.line c.env = pure false := by rfl) :
  JP c (Sto c I s0 ρ) (.Expr e pos :: rest) Q := JP.step fun s S => by
 refine wpAny_Expr (fin (h s S.sta) fun v s1 q => ?_) (not_inter ok.env.kind) hs
 rw [rnon q.2.1]
 exact k s1 ⟨S.ext.trans (q.1.mono u_sub),q.2.2⟩
theorem JS.xassign {x : Str} {px pos : Pos} {e : Expr} {d : D} (ok : c.Ok n) (h : XE c I ρ e d I') (k : JP c (Sto c I' s0 ((x,d) :: ρ)) rest Q)
  (hk : StoOk c x)
  (hs : swapsWith e (some (.Name x px)) pos.line c.env = pure false := by rfl) : JP c (Sto c I s0 ρ) (.Assign [.Name x px] e pos :: rest) Q := JP.step fun s S => by
 refine wpAny_Assign_Name (fin (h s S.sta) fun v s1 q => ?_) hs
 have S1 : Sto c I' s0 ρ s1 := ⟨S.ext.trans (q.1.mono u_sub),q.2.2⟩
 exact fin (store_var ok hk S1.sta q.2.1) fun _ s2 r => k s2 ⟨S1.ext.trans (r.1.mono fv_sub),r.2⟩
theorem JS.xret {e : Expr} {pos : Pos} {d : D} (h : XE c I ρ e d I') (k : ∀ v s,Sto c I' s0 ρ s -> Rel c.W s.heap d v -> Q (.ret v) s) : JP c (Sto c I s0 ρ) (.Return (some e) pos :: rest) Q := JP.step fun s S =>
 wpAny_Return_some (fin (h s S.sta) fun v s1 q => k v s1 ⟨S.ext.trans (q.1.mono u_sub),q.2.2⟩ q.2.1)
noncomputable def JA (c : Cx) (I : Asr c.W) (t : Expr) (d : D) (ρ ρ' : List (Str × D)) : Prop :=
 ∀ s v,Sta c I ρ s -> Rel c.W s.heap d v -> wpAny c.M c.A (assign t c.env v) (fun _ s' => Ext (FV c.env) s s' ∧ Sta c I ρ' s') NoE s
theorem JA.name {x : Str} {px : Pos} {d : D} (ok : c.Ok n)
  (hk : StoOk c x) : JA c I (.Name x px) d ρ ((x,d) :: ρ) := fun s v S r =>
 wpAny_assign_Name (store_var ok hk S r)
theorem JA.pair {x y : Str} {px py pos : Pos} {k : Nat} {d e : D} (ok : c.Ok n)
  (hx : StoOk c x)
  (hy : StoOk c y) :
  JA c I (.Tuple [.Name x px,.Name y py] k pos) (.tup [d,e]) ρ ((y,e) :: (x,d) :: ρ) := by
 revert c I ρ n x y px py pos k d e;intros c I ρ n x y px py pos k d e ok hx hy
 intros s v S r
 obtain @⟨a,vs,rfl,ha,ht,hr⟩ := rtup r
 revert ht;refine rels2 hr ?_;clear hr;intros u1 u2;intro q1 q2 ht
 refine assign_Tuple_tuple ok.room.hh ht rfl rfl ?_
 intros h' he
 have e1 : Ext [] s { s with heap := h' } := ⟨fun b o _ eb => he b o (Nat.ne_of_lt (Heap.lt_size eb)) eb,rfl,fun x => x⟩
 show wpAny _ _ (assignInOrder [assign (.Name x px) c.env,assign (.Name y py) c.env] [u1,u2]) _ _ _
 refine wpAny_bind (wpAny_holding (wpAny_assign_Name (fin (store_var ok hx (S.ext e1) (q1.ext e1)) fun _ s2 z => ?_)))
 have q2' : Rel c.W s2.heap e u2 := by
  have hp := (S.ext e1).loc.noSeq
  exact (q2.ext e1).move z.1.keep fun b hb => .inr (hp b hb).2
 refine wpAny_bind (wpAny_holding (wpAny_assign_Name (fin (store_var ok hy z.2 q2') fun _ s3 z' => ?_)))
 exact wpAny_pure ⟨(e1.nil.trans z.1).trans z'.1,z'.2⟩
end
structure IterAt (w : World) (A : Around) (W : List Addr) (it : Value) (ds : List D) (fp : List Addr) (S : Nat -> Heap -> Prop) : Prop where
 frame : ∀ (V : List Addr) (h h' : Heap) i,(∀ b ∈ V,b ∉ fp ∧ (b ∈ W ∨ NoSeq h b)) -> (∀ b o,b ∉ V -> h.get? b = some o -> h'.get? b = some o) -> S i h -> S i h'
 quiet : ∀ i h,S i h -> ∀ b ∈ fp,NoSeq h b
 next : ∀ i (s : Shared) d,S i s.heap -> WIn W s.heap -> ds[i]? = some d -> wpAny (model PR w) A (pyNext it) (fun r s' => ∃ v,r = some v ∧ Ext fp s s' ∧ S (i + 1) s'.heap ∧ Rel W s'.heap d v) NoE s
 done : ∀ s : Shared,S ds.length s.heap -> wpAny (model PR w) A (pyNext it) (fun r s' => r = none ∧ Ext fp s s') NoE s
 live : ∀ i h,S i h -> ∀ b ∈ fp,∃ o,h.get? b = some o
 self : ∀ i (s : Shared),S i s.heap -> wpAny (model PR w) A (pyIter it) (fun v s' => v = it ∧ s' = s) NoE s
 go : ∀ (t : Expr) i (s : Shared) d v,S (i + 1) s.heap -> ds[i]? = some d -> Rel W s.heap d v -> wpAny (model PR w) A (letOwnedTupleGo t it v) (fun _ s' => Ext fp s s' ∧ S (i + 1) s'.heap) NoE s
noncomputable def JI (c : Cx) (I : Asr c.W) (ρ : List (Str × D)) (e : Expr) (ds : List D) : Prop :=
 ∀ s,Sta c I ρ s -> wpAny c.M c.A (eval e c.env) (fun x s1 => wpAny c.M c.A (pyIter x) (fun it s2 => ∃ fp S,IterAt c.w c.A c.W it ds fp S ∧ S 0 s2.heap ∧ Ext [] s s2 ∧ (∀ b ∈ fp,s.heap.get? b = none) ∧ (∀ d0,s2.heap.get? d0 = none -> ∃ S',IterAt c.w c.A (d0 :: c.W) it ds fp S' ∧ S' 0 s2.heap)) NoE s1) NoE s
end
section
section
variable {prog : Program} {w : World} {A : Around} {s : Shared}
theorem forLoop_gen {R : Result -> Shared -> Prop} {target it body orelse env} (I : Nat -> Shared -> Prop)
  (turn : ∀ n s,I n s -> wpAny (model prog w) A (pyNext it) (fun r s₁ => match r with
   | none => wpAny (model prog w) A (execs orelse env) (fun f s₃ => R (.ok f) s₃) NoE s₁
   | some v => wpAny (model prog w) A (letOwnedTupleGo target it v) (fun _ s₂ => wpAny (model prog w) A (assign target env v) (fun _ s₂ => wpAny (model prog w) A (execs body env) (fun f s₃ => match f with
     | .next | .cont => ∃ m,m < n ∧ I m s₃
     | .brk => R (.ok .next) s₃
     | .ret v => R (.ok (.ret v)) s₃) NoE s₂) NoE s₂) NoE s₁) NoE s)
  (n : Nat) (h : I n s) : codeAny (model prog w) A (.forLoop target it body orelse env) R s := by
 revert prog w A s R target it body orelse env I n;intros prog w A s R target it body orelse env I turn n h
 refine codeAny_loop' rfl I ?_ n h
 intros n s hI
 show wpAny _ _ ((forTurn target it body orelse env).onRaise (fun x => do noteFrame x env;theTreesLotGoes x)) _ _ s
 refine wpAny_noted ?_
 simp only [forTurn]
 refine wpAny_bind (wpAny_standAt (wpAny_bind (wpAny_onRaise (wpAny_mono (turn n s hI) ?_ fun _ _ h' => h'.elim))))
 intros r s₁ h₁
 cases r with
 | none => exact wpAny_pure (.inr ⟨rfl,codeAny_block (wpAny_mono h₁ (fun _ _ x => x) fun _ _ h' => h'.elim)⟩)
 | some v =>
  refine wpAny_bind (wpAny_mono h₁ ?_ fun _ _ h' => h'.elim)
  intros v9 s₂ h₂
  refine wpAny_bind (wpAny_mono h₂ (fun _ s₂ h₂ => wpAny_bind (wpAny_mono h₂ ?_ fun _ _ h' => h'.elim)) fun _ _ h' => h'.elim)
  intros f s₃ h₃
  cases f with
  | next => exact wpAny_pure (.inl ⟨rfl,h₃⟩)
  | cont => exact wpAny_pure (.inl ⟨rfl,h₃⟩)
  | brk => exact wpAny_pure h₃
  | ret v => exact wpAny_pure h₃
end
section
variable {c : Cx} {I : Asr c.W} {ρ : List (Str × D)} {n : Nat} {s0 : Shared} {Q : Flow -> Shared -> Prop} {rest : List Stmt}
noncomputable def QT (N : Shared -> Prop) (B : Shared -> Prop) (Q : Flow -> Shared -> Prop) : Flow -> Shared -> Prop := fun f s' => match f with
 | .next => N s' | .cont => N s' | .brk => B s' | .ret v => Q (.ret v) s'
theorem V_priv {s : Shared} (ok : c.Ok n) (S : Sta c I ρ s) : ∀ b ∈ c.V,b ∈ c.W ∨ NoSeq s.heap b := fun b q => by
 rcases List.mem_append.mp q with q | q
 ·exact .inl (ok.sub b q)
 ·exact .inr (S.loc.noSeq b q).2
theorem V_live {s : Shared} (ok : c.Ok n) (S : Sta c I ρ s) : ∀ b ∈ c.V,∃ o,s.heap.get? b = some o := fun b q => by
 rcases List.mem_append.mp q with q | q
 ·exact S.win b (ok.sub b q)
 ·exact S.loc.live b q
theorem fresh_off {s : Shared} {fp : List Addr} (ok : c.Ok n) (S : Sta c I ρ s) (hf : ∀ b ∈ fp,s.heap.get? b = none) : ∀ b ∈ fp,b ∉ c.V ∧ b ∉ c.W ∧ c.hb.get? b = none ∧ b ∉ FV c.env := fun b q => by
 have no : ∀ o,s.heap.get? b ≠ some o := fun o e => by rw [hf b q] at e;cases e
 refine ⟨fun q' => ?_,fun q' => ?_,?_,fun q' => ?_⟩
 ·obtain ⟨o,e⟩ := V_live ok S b q';exact no o e
 ·obtain ⟨o,e⟩ := S.win b q';exact no o e
 ·cases e : c.hb.get? b with
  | none => rfl
  | some o => obtain ⟨m,F,_⟩ := S.loc.fr;exact absurd (F.keep b o e) (no o)
 ·obtain ⟨o,e⟩ := S.loc.live b q';exact no o e
theorem Ext.past {V fp : List Addr} {a b d : Shared} (x : Ext V a b) (hf : ∀ p ∈ fp,a.heap.get? p = none) (y : Ext fp b d) : Ext V a d :=
 ⟨fun p o np e => y.keep p o (fun q => by rw [hf p q] at e;cases e) (x.keep p o np e),y.os.trans x.os,fun g => y.gens (x.gens g)⟩
theorem Sto.rebase {s1 s : Shared} (x : Ext c.V s0 s1) (S : Sto c I s1 ρ s) : Sto c I s0 ρ s := ⟨x.trans S.ext,S.sta⟩
theorem JS.forrI {target iter : Expr} {body orelse : List Stmt} {pos : Pos} {ds : List D} (ok : c.Ok n) (P : Shared -> Prop) (it : ∀ s,Sto c I s0 ρ s -> P s -> wpAny c.M c.A (eval iter c.env) (fun x s1 => wpAny c.M c.A (pyIter x) (fun itv s2 => ∃ fp T,IterAt c.w c.A c.W itv ds fp T ∧ T 0 s2.heap ∧ Ext [] s s2 ∧ (∀ b ∈ fp,b ∉ c.V ∧ b ∉ c.W ∧ c.hb.get? b = none ∧ b ∉ FV c.env) ∧ (∀ b ∈ fp,s0.heap.get? b = none)) NoE s1) NoE s) (R : Nat -> Prop) (hR : R 0) (Is : Nat -> Asr c.W) (hI : Is 0 = I) (ρs : Nat -> List (Str × D)) (h0 : Sub (ρs 0) ρ) (B : Shared -> Prop)
  (turn : ∀ i d,ds[i]? = some d -> R i -> ∃ ρ',JA c (Is i) target d (ρs i) ρ' ∧ ∀ s1,Ext c.V s0 s1 -> JP c (Sto c (Is i) s1 ρ') body (QT (fun s => R (i + 1) ∧ Sto c (Is (i + 1)) s1 (ρs (i + 1)) s) B Q))
  (els : R ds.length -> JP c (Sto c (Is ds.length) s0 (ρs ds.length)) orelse (QP B Q)) (k : JP c B rest Q)
  (hs : ∀ x,foldedSetIterable iter c.env x = pure x := by intro _;rfl) :
  JP c (fun s => Sto c I s0 ρ s ∧ P s) (.For target iter body orelse pos :: rest) Q := JP.step fun s ⟨S,hP⟩ => by
 refine wp_cut (Q := QP B Q) ?_ fun f s' y => QN.of y k
 refine wpAny_For (E := NoE) (fin (it s S hP) fun x s1 h1 => wpAny_mono h1 (fun itv s2 h2 => ?_) fun _ _ z => z) hs
 obtain ⟨fp,T,W,t0,e2,off,hf0⟩ := h2
 have S2 := S.ext0 e2
 subst hI
 refine forLoop_gen (fun m s => ∃ i,m = ds.length + 1 - i ∧ i ≤ ds.length ∧ R i ∧ Sto c (Is i) s0 (ρs i) s ∧ T i s.heap) ?_ (ds.length + 1) ⟨0,rfl,Nat.zero_le _,hR,S2.weak h0,t0⟩
 rintro m s ⟨i,rfl,hi,Ri,Si,ti⟩
 have mv : ∀ {i : Nat} {ρ : List (Str × D)} {I : Asr c.W} {s s' : Shared},Sto c I s0 ρ s -> T i s.heap -> Ext fp s s' -> Sto c I s0 ρ s' := fun {i ρ I s s'} x t e =>
  ⟨x.ext.past hf0 e,x.sta.move e fun b q => ⟨⟨(off b q).2.1,W.quiet _ _ t b q⟩,(off b q).2.2⟩⟩
 by_cases hlt : i < ds.length
 ·obtain ⟨ρ',ja,tn⟩ := turn i ds[i] (List.getElem?_eq_getElem hlt) Ri
  refine fin (W.next i s ds[i] ti Si.sta.win (List.getElem?_eq_getElem hlt)) fun r s1 h => ?_
  obtain ⟨v,rfl,e1,t1,r1⟩ := h
  have S1 := mv Si ti e1
  refine fin (W.go target i s1 ds[i] v t1 (List.getElem?_eq_getElem hlt) r1) fun _ s2 h => ?_
  obtain ⟨e2,t2⟩ := h
  have S2 := mv S1 t1 e2
  have r2 : Rel c.W s2.heap ds[i] v := r1.move e2.keep fun b q => .inr (W.quiet _ _ t1 b q)
  refine fin (ja s2 v S2.sta r2) fun _ s3 h => ?_
  have t3 : T (i + 1) s3.heap := W.frame (FV c.env) _ _ _ (fun b q => ⟨fun q' => (off b q').2.2.2 q,.inr (S2.sta.loc.noSeq b q).2⟩) h.1.keep t2
  have S3 : Sto c (Is i) s0 ρ' s3 := ⟨S2.ext.trans (h.1.mono fv_sub),h.2⟩
  refine wp_cut (tn s3 S3.ext s3 ⟨Ext.refl _ _,S3.sta⟩) fun f s4 q => ?_
  have nx : R (i + 1) ∧ Sto c (Is (i + 1)) s3 (ρs (i + 1)) s4 -> ∃ m,m < ds.length + 1 - i ∧ ∃ i,m = ds.length + 1 - i ∧ i ≤ ds.length ∧ R i ∧ Sto c (Is i) s0 (ρs i) s4 ∧ T i s4.heap := fun ⟨R4,S4⟩ =>
   ⟨ds.length + 1 - (i + 1),Nat.sub_lt_sub_left (Nat.lt_succ_of_lt hlt) (Nat.lt_succ_self i),i + 1,rfl,hlt,R4,S4.rebase S3.ext,W.frame c.V _ _ _ (fun b q => ⟨fun q' => (off b q').1 q,V_priv ok S3.sta b q⟩) S4.ext.keep t3⟩
  cases f with
  | next => exact nx q
  | cont => exact nx q
  | brk => exact q
  | ret v => exact q
 ·have hin : i = ds.length := Nat.le_antisymm hi (Nat.le_of_not_lt hlt)
  subst hin
  refine fin (W.done s ti) fun r s1 h => ?_
  obtain ⟨rfl,e1⟩ := h
  exact els Ri s1 (mv Si ti e1)
theorem QT.rebase {N N' B B' : Shared -> Prop} {ss : List Stmt} {P : Shared -> Prop} (h : JP c P ss (QT N B Q)) (hN : ∀ s,N s -> N' s) (hB : ∀ s,B s -> B' s) : JP c P ss (QT N' B' Q) := fun s x =>
 wp_cut (h s x) fun f s' y => by cases f <;> first | exact hN _ y | exact hB _ y | exact y
theorem JS.forrR {target iter : Expr} {body orelse : List Stmt} {pos : Pos} {ds : List D} (ok : c.Ok n) (it : JI c I ρ iter ds) (R : Nat -> Prop) (hR : R 0) (Is : Nat -> Asr c.W) (hI : Is 0 = I) (ρs : Nat -> List (Str × D)) (h0 : Sub (ρs 0) ρ) (B : Shared -> Prop)
  (turn : ∀ i d,ds[i]? = some d -> R i -> ∃ ρ',JA c (Is i) target d (ρs i) ρ' ∧ ∀ s1,Ext c.V s0 s1 -> JP c (Sto c (Is i) s1 ρ') body (QT (fun s => R (i + 1) ∧ Sto c (Is (i + 1)) s1 (ρs (i + 1)) s) B Q))
  (els : R ds.length -> JP c (Sto c (Is ds.length) s0 (ρs ds.length)) orelse (QP B Q)) (k : JP c B rest Q)
  (hs : ∀ x,foldedSetIterable iter c.env x = pure x := by intro _;rfl) :
  JP c (Sto c I s0 ρ) (.For target iter body orelse pos :: rest) Q := fun s S =>
 JS.forrI ok (fun _ => True) (fun s S _ => wpAny_mono (it s S.sta) (fun x s1 h1 => wpAny_mono h1 (fun itv s2 h2 => by
  obtain ⟨fp,T,W,t0,e2,hf,_⟩ := h2
  have off := fresh_off ok S.sta hf
  refine ⟨fp,T,W,t0,e2,off,fun b q => ?_⟩
  cases e : s0.heap.get? b with
  | none => rfl
  | some o => exact nomatch (hf b q).symm.trans (S.ext.keep b o (off b q).1 e)) fun _ _ z => z) fun _ _ z => z) R hR Is hI ρs h0 B turn els k hs s ⟨S,trivial⟩
theorem JS.forr {target iter : Expr} {body orelse : List Stmt} {pos : Pos} {ds : List D} (ok : c.Ok n) (it : JI c I ρ iter ds) (Is : Nat -> Asr c.W) (hI : Is 0 = I) (ρs : Nat -> List (Str × D)) (h0 : Sub (ρs 0) ρ) (B : Shared -> Prop)
  (turn : ∀ i d,ds[i]? = some d -> ∃ ρ',JA c (Is i) target d (ρs i) ρ' ∧ ∀ s1,Ext c.V s0 s1 -> JP c (Sto c (Is i) s1 ρ') body (QT (Sto c (Is (i + 1)) s1 (ρs (i + 1))) B Q))
  (els : JP c (Sto c (Is ds.length) s0 (ρs ds.length)) orelse (QP B Q)) (k : JP c B rest Q)
  (hs : ∀ x,foldedSetIterable iter c.env x = pure x := by intro _;rfl) :
  JP c (Sto c I s0 ρ) (.For target iter body orelse pos :: rest) Q :=
 JS.forrR ok it (fun _ => True) trivial Is hI ρs h0 B (fun i d e _ => by
  obtain ⟨ρ',a,b⟩ := turn i d e
  exact ⟨ρ',a,fun s1 x => QT.rebase (b s1 x) (fun _ y => ⟨trivial,y⟩) fun _ y => y⟩) (fun _ => els) k hs
end
end
noncomputable def BRel (W : List Addr) (h : Heap) : List (Str × D) -> List (Str × Value) -> Prop
 | [],[] => True
 | p :: r,y :: q => p.1 = y.1 ∧ Rel W h p.2 y.2 ∧ BRel W h r q
 | [],_ :: _ => False
 | _ :: _,[] => False
theorem BRel.look {W : List Addr} {h : Heap} : ∀ {ρ : List (Str × D)} {b : List (Str × Value)} {x : Str} {d : D},BRel W h ρ b -> ρ.lookup x = some d -> ∃ v,b.lookup x = some v ∧ Rel W h d v
 | [],[],x,d,_,e => by cases e
 | (y,d') :: r,(y',v) :: q,x,d,H,e => by
  obtain ⟨h0,h1,h2⟩ := H
  obtain rfl : y = y' := h0
  rw [List.lookup_cons] at e ⊢
  cases hb : x == y with
  | true => rw [hb] at e;cases e;exact ⟨v,rfl,h1⟩
  | false => rw [hb] at e;exact h2.look e
 | [],_ :: _,_,_,H,_ => H.elim
 | _ :: _,[],_,_,H,_ => H.elim
theorem bindL_look {k : Str -> Option NameKind} {x : Str} (hx : k x = some .local) : ∀ (b : List (Str × Value)) (m : Str -> Option Value),bindL k b m x = (b.reverse.lookup x).or (m x)
 | [],m => by simp [bindL]
 | (n,v) :: r,m => by
  rw [bindL,bindL_look hx r,List.reverse_cons,List.lookup_append]
  cases e : r.reverse.lookup x with
  | some u => simp
  | none =>
   simp only [Option.none_or]
   by_cases q : x = n
   ·subst q;simp [hx]
   ·have : (x == n) = false := by simpa using q
    by_cases hn : k n = some .local <;> simp [hn,q,this,List.lookup]
theorem bindC_look {k : Str -> Option NameKind} {x : Str} (hx : k x ≠ some .local) : ∀ (b : List (Str × Value)) (m : Str -> Option Value),bindC k b m x = (b.reverse.lookup x).or (m x)
 | [],m => by simp [bindC]
 | (n,v) :: r,m => by
  rw [bindC,bindC_look hx r,List.reverse_cons,List.lookup_append]
  cases e : r.reverse.lookup x with
  | some u => simp
  | none =>
   simp only [Option.none_or]
   by_cases q : x = n
   ·subst q;simp [hx]
   ·have : (x == n) = false := by simpa using q
    by_cases hn : k n = some .local <;> simp [hn,q,this,List.lookup]
theorem cells_names : ∀ (k k' : Nat) (l : List (Str × NameKind)) (a a' : List (Str × Addr)),a.map (·.1) = a'.map (·.1) -> (cellsFrom k l a).map (·.1) = (cellsFrom k' l a').map (·.1)
 | k,k',[],a,a',h => h
 | k,k',(n,q) :: r,a,a',h => by
  unfold cellsFrom
  split
  ·exact cells_names _ _ r _ _ (by simp [h])
  ·exact cells_names _ _ r _ _ h
theorem look_of_mem {n : Str} {a : Addr} : ∀ {l : List (Str × Addr)},(l.map (·.1)).Nodup -> (n,a) ∈ l -> l.lookup n = some a
 | [],_,h => by cases h
 | (m,b) :: r,hd,h => by
  rw [List.map_cons,List.nodup_cons] at hd
  rw [List.lookup_cons]
  rcases List.mem_cons.mp h with e | h
  ·cases e;simp
  ·have : (n == m) = false := by
    have : n ≠ m := fun q => hd.1 (q ▸ List.mem_map_of_mem (f := (·.1)) h)
    simpa using this
   rw [this];exact look_of_mem hd.2 h
noncomputable def RQ (c : Cx) (W : List Addr) (s0 : Shared) (d : D) : Flow -> Shared -> Prop := fun f s' => ∃ v,(f = .ret v ∨ (f = .next ∧ v = .none)) ∧ Ext c.V s0 s' ∧ Rel W s'.heap d v
noncomputable def Spec (m : Nat) (f : Addr) (ds : List D) (d : D) : Prop :=
 ∀ (w : World) (hb : Heap) (W : List Addr) (A : Around) (s : Shared) (vs : List Value),Gr w hb -> Room A m -> hb.StaysIn s.heap -> hb.objs.size ≤ s.heap.objs.size -> WIn W s.heap ∧ (∀ b ∈ W,hb.get? b = none) -> Rels W s.heap ds vs ->
  wpAny (model PR w) A (call (.ref f) vs) (fun v s' => Ext [] s s' ∧ Rel W s'.heap d v) NoE s
theorem spec_enter {m : Nat} {f : Addr} {d : D} {ρ : List (Str × D)} {w : World} {hb : Heap} {W : List Addr} {A : Around} {s : Shared} {vs : List Value} {binds : List (Str × Value)}
  {name qual : Str} {params : Arguments} {body : List Stmt} {scope : Scope} {dV kV doc pm cdv ct oc : Value} {an od : Option Addr} {osl : Array (Option Value)}
  (g : Gr w hb) (room : Room A (m + 1)) (hst : hb.StaysIn s.heap) (hsz : hb.objs.size ≤ s.heap.objs.size) (hW' : WIn W s.heap ∧ (∀ b ∈ W,hb.get? b = none))
  (ho : (hd.heap_1 w.params).lookup f = some ⟨oc,od,.func (fnOf name qual params body scope dV kV doc pm an cdv ct),osl⟩) (hcd : codeIn (hd.heap_1 w.params) cdv qual = true)
  (hbind : bindArgs (fnOf name qual params body scope dV kV doc pm an cdv ct) ⟨vs,[]⟩ = pure binds) (hρ : BRel W s.heap ρ binds.reverse)
  (hkind : (binds.all fun y => scope.names.lookup y.1 == some .local || scope.names.lookup y.1 == some .cell) = true)
  (hnd : ((cellsFrom 0 scope.names []).map (·.1)).Nodup)
  (h : ∀ (c : Cx) (s0 : Shared) (L : Addr),c.env = envOfC qual scope L f cdv -> c.U = [] -> c.Ok m -> JP c (Sto c (Asr.top c.W) s0 ρ) body (RQ c c.W s0 d))
  (hco : scope.isCoroutine = false) (hgen : scope.isGenerator = false) (hk : scope.kind = .function) :
  wpAny (model PR w) A (call (.ref f) vs) (fun v s' => Ext [] s s' ∧ Rel W s'.heap d v) NoE s := by
 obtain ⟨p,loose,mg,mb,T⟩ := g.T
 obtain ⟨hW,hWh⟩ := hW'
 refine wpAny_call ?_
 refine codeAny_call_cells (fd := fnOf name qual params body scope dV kV doc pm an cdv ct) (by have := room.dp;simp only [recursionLimit];omega) (hst _ _ (g.X _ _ ho)) rfl (T.nolimit.keeps hst) (codeRec_of (K := hd.heap_1 w.params) (fun a o e => hst a o (g.X a o e)) hcd) rfl hbind rfl
  (fun x hx => kindsX hkind _ x hx) (fun s0 X => ?_) hco hgen hk
 have henv : callEnvC (fnOf name qual params body scope dV kV doc pm an cdv ct) s.heap.objs.size f = envOfC qual scope s.heap.objs.size f cdv := rfl
 rw [henv] at X ⊢
 obtain ⟨h0,tk,rfl,hkp⟩ := X.done
 have e0 : Ext [] s { s with heap := h0,toks := tk } := ⟨fun b o _ => hkp b o,rfl,fun x => x⟩
 have hLW : s.heap.objs.size ∉ W := hW.fresh
 have above : ∀ n a,(n,a) ∈ (envOfC qual scope s.heap.objs.size f cdv).cells -> s.heap.objs.size < a := X.above
 have okc : Cx.Ok ⟨w,hb,W,[],A.deeper (envOfC qual scope s.heap.objs.size f cdv),envOfC qual scope s.heap.objs.size f cdv⟩ m := by
  refine ⟨g,⟨hk,X.apart,fun n a hm => Nat.ne_of_gt (above n a hm),fun n a hm _ => ?_,rfl,rfl⟩,⟨room.hh,?_,?_⟩,(fun _ q => nomatch q),hWh⟩
  ·cases e : hb.get? a with
   | none => rfl
   | some o => exact absurd (Nat.lt_of_lt_of_le (Heap.lt_size e) hsz) (Nat.not_lt.mpr (Nat.le_of_lt (above n a hm)))
  ·have := room.dp;simp only [Around.deeper];omega
  ·have := room.un;simp only [Around.deeper];omega
 have S0 : Sta ⟨w,hb,W,[],A.deeper (envOfC qual scope s.heap.objs.size f cdv),envOfC qual scope s.heap.objs.size f cdv⟩ (Asr.top _) ρ { s with heap := h0,toks := tk } := by
  refine ⟨⟨⟨_,⟨X.toInCall.ns,fun b o e => hkp b o (hst b o e),hsz⟩,fun x d e => ?_⟩,fun n a hm => ?_,hLW⟩,hW.ext e0,trivial⟩
  ·obtain ⟨v,hv,r⟩ := hρ.look e
   have hmem := mem_of_lookup hv
   have hkx := List.all_eq_true.mp hkind (x,v) (List.mem_reverse.mp hmem)
   by_cases hl : scope.names.lookup x = some .local
   ·exact .inl ⟨hl,v,by rw [bindL_look hl,hv];rfl,r.ext e0⟩
   ·have hc : scope.names.lookup x = some .cell := by simpa [hl] using hkx
    have hcl := (kindsX hkind (s.heap.objs.size + 1) (x,v) (List.mem_reverse.mp hmem)).resolve_left hl
    obtain ⟨a,ha⟩ := Option.isSome_iff_exists.mp hcl.2
    refine .inr ⟨.inl hc,a,v,ha,?_,r.ext e0⟩
    have := X.cell x a ha
    rw [bindC_look (by show scope.names.lookup x ≠ _;rw [hc];decide),hv] at this
    exact this
  ·refine ⟨?_,fun q => ?_⟩
   ·exact ⟨_,X.cell n a (look_of_mem (by show ((cellsFrom (s.heap.objs.size + 1) scope.names []).map (·.1)).Nodup;rw [cells_names _ 0 scope.names [] [] rfl];exact hnd) hm)⟩
   ·obtain ⟨o,e⟩ := hW a q
    exact absurd (Nat.lt_trans (Heap.lt_size e) (above n a hm)) (Nat.lt_irrefl _)
 refine fin (h _ _ s.heap.objs.size rfl rfl okc _ ⟨Ext.refl _ _,S0⟩) fun fl s' r => ?_
 obtain ⟨v,hv,e,rr⟩ := r
 have e2 : Ext [] s s' := ⟨fun b o _ eb => e.keep b o (fun q => ?_) (hkp b o eb),e.os,e.gens⟩
 ·rcases hv with rfl | ⟨rfl,rfl⟩ <;> exact ⟨e2,rr⟩
 ·have hlt := Heap.lt_size eb
  rcases List.mem_append.mp q with q | q
  ·cases q
  ·rcases List.mem_cons.mp q with q | q
   ·subst q;exact absurd hlt (Nat.lt_irrefl _)
   ·obtain ⟨⟨n,a⟩,hm,rfl⟩ := List.mem_map.mp q
    exact absurd (Nat.lt_trans hlt (above n a hm)) (Nat.lt_irrefl _)
section
theorem let_go {M : Model} {A : Around} {t : Expr} {I : Addr} {v : Value} {s : Shared} {Q : Unit -> Shared -> Prop} {E : Value -> Shared -> Prop} (h0 : Q () s) (h : ∀ l x p a,wpAny M A (letOwnedTupleGo (.Tuple l x p) (.ref I) (.ref a)) Q E s) : wpAny M A (letOwnedTupleGo t (.ref I) v) Q E s := by
 have h1 : ∀ l x p,wpAny M A (letOwnedTupleGo (.Tuple l x p) (.ref I) v) Q E s := fun l x p => by
  cases v with
  | ref a => exact h l x p a
  | _ => exact wpAny_pure h0
 cases t with
 | Tuple l k p => exact h1 l k p
 | List l p => exact h1 l 0 p
 | _ => exact wpAny_pure h0
theorem go_plain {M : Model} {A : Around} {t : Expr} {I : Addr} {v : Value} {s : Shared} {Q : Unit -> Shared -> Prop} {E : Value -> Shared -> Prop} {o : Obj} {T : String}
  (ho : s.heap.get? I = some o) (hc : o.cls = .type T) (hT : ["enumerate","zip","dict_itemiterator","dict_reverseitemiterator","odict_iterator","itertools.zip_longest","itertools.pairwise"].contains T = false) (hQ : Q () s) :
  wpAny M A (letOwnedTupleGo t (.ref I) v) Q E s := by
 revert M A t I v s Q E o T;intros M A t I v s Q E o T ho hc hT hQ
 refine let_go hQ fun l x p a => ?_
 show wpAny _ _ (load I >>= _) _ _ _
 refine wpAny_bind (wpAny_load ho ?_)
 rw [hc]
 cases o.data <;> first | exact wpAny_pure hQ | (simp only [hT,Bool.false_and,Bool.false_eq_true,if_false];exact wpAny_pure hQ)
theorem Rels.elem {W : List Addr} {h : Heap} {ds : List D} {vs : List Value} {i : Nat} {d : D} (x : Rels W h ds vs) (e : ds[i]? = some d) : ∃ v,vs.toArray[i]? = some v ∧ Rel W h d v := by
 obtain ⟨v,hv,r⟩ := x.get e
 exact ⟨v,by simpa using hv,r⟩
theorem not_wide {W : List Addr} {h : Heap} {l d0 : Addr} {o : Obj} (hl : l ∉ W) (e : h.get? l = some o) (hn : h.get? d0 = none) : l ∉ d0 :: W := fun q => by
 rcases List.mem_cons.mp q with rfl | q
 ·rw [hn] at e;cases e
 ·exact hl q
section
variable {c : Cx} {I : Asr c.W} {ρ : List (Str × D)} {n : Nat}
theorem IterAt.lst {w : World} {A : Around} {W : List Addr} {I l : Addr} {ds : List D} {vs : List Value} (hh : A.handled = none) (hIl : l ≠ I) (hl : l ∉ W) :
  IterAt w A W (.ref I) ds [I] (fun i h => h.IsListIter I l i ∧ h.IsList l vs.toArray ∧ Rels W h ds vs) where
 frame := fun V h h' i hV k ⟨a,b,r⟩ => by
  have nI : I ∉ V := fun q => (hV I q).1 (List.mem_singleton.mpr rfl)
  have nl : l ∉ V := fun q => by
   rcases (hV l q).2 with z | z
   ·exact hl z
   ·obtain ⟨o,e,_,n,hd⟩ := b;exact z o e _ _ hd
  refine ⟨?_,isList_move b (k l · nl),r.move k fun b q => (hV b q).2⟩
  obtain ⟨o,e,q⟩ := a;exact ⟨o,k I o nI e,q⟩
 quiet := fun i h ⟨a,_,_⟩ b hb o e xs n q => by
  rw [List.mem_singleton.mp hb] at e
  obtain ⟨o',e',_,d⟩ := a
  rw [e] at e';cases e';rw [d] at q;cases q
 next := fun i s d ⟨a,b,r⟩ hW e => by
  obtain ⟨v,hv,rv⟩ := r.elem e
  refine wpAny_pyNext_list_item a b hv fun h' a' sb => ?_
  have kp : ∀ p o,p ∉ [I] -> s.heap.get? p = some o -> h'.get? p = some o := fun p o np e => sb.extBut p o (fun q => np (q ▸ List.mem_singleton.mpr rfl)) e
  have nq : ∀ p ∈ [I],p ∈ W ∨ NoSeq s.heap p := fun p hp => .inr fun o eo xs n q => by
   rw [List.mem_singleton.mp hp] at eo
   obtain ⟨o',e',_,d⟩ := a
   rw [eo] at e';cases e';rw [d] at q;cases q
  exact ⟨v,rfl,⟨kp,rfl,fun x => x⟩,⟨a',b.extBut sb.extBut hIl,r.move kp nq⟩,rv.move kp nq⟩
 done := fun s ⟨a,b,r⟩ => by
  refine wpAny_pyNext_list_end hh a b (by have := r.length;simp [this]) fun h' he => ⟨rfl,⟨fun p o np e => he p o (fun q => np (q ▸ List.mem_singleton.mpr rfl)) e,rfl,fun x => x⟩⟩
 live := fun i h st b hb => by rw [List.mem_singleton.mp hb];obtain ⟨o,e,_⟩ := st.1;exact ⟨o,e⟩
 self := fun i s st => wpAny_pyIter_listiter st.1 ⟨rfl,rfl⟩
 go := fun t i s d v st _ _ => by
  obtain ⟨o,e,hc,_⟩ := st.1
  exact go_plain e hc rfl ⟨Ext.refl _ _,st⟩
theorem JI.lst {e : Expr} {ds : List D} (ok : c.Ok n) (h : JE c I ρ e (.lst ds)) : JI c I ρ e ds := fun s S => by
 refine fin (h s S) fun x s1 q => ?_
 obtain ⟨l,vs,rfl,hl,hL,hR⟩ := rlst q.2
 have hne : l ≠ s1.heap.objs.size := by obtain ⟨o,e,_⟩ := hL;exact Nat.ne_of_lt (Heap.lt_size e)
 refine wpAny_pyIter_list hL ⟨[s1.heap.objs.size],_,IterAt.lst (vs := vs) ok.room.hh hne hl,⟨⟨_,Heap.get?_push_size _ rfl,rfl,rfl⟩,isList_move hL fun o e => Heap.get?_push_of_some _ e,hR.ext Ext.push⟩,q.1.trans Ext.push,fun b hb => ?_,fun d0 hd0 => ⟨_,IterAt.lst (vs := vs) ok.room.hh hne (by obtain ⟨o,e,_⟩ := hL;exact not_wide hl (Heap.get?_push_of_some _ e) hd0),⟨_,Heap.get?_push_size _ rfl,rfl,rfl⟩,isList_move hL fun o e => Heap.get?_push_of_some _ e,(hR.ext Ext.push).widen hd0⟩⟩
 rw [List.mem_singleton.mp hb]
 cases e : s.heap.get? s1.heap.objs.size with
 | none => rfl
 | some o => exact absurd (Heap.lt_size (q.1.all _ _ e)) (Nat.lt_irrefl _)
theorem IterAt.tup {w : World} {A : Around} {W : List Addr} {I l : Addr} {ds : List D} {vs : List Value} (hh : A.handled = none) (hIl : l ≠ I) (hl : l ∉ W) :
  IterAt w A W (.ref I) ds [I] (fun i h => IsTupIter h I l i ∧ IsTup h l vs.toArray ∧ Rels W h ds vs) where
 frame := fun V h h' i hV k ⟨a,b,r⟩ => by
  have nI : I ∉ V := fun q => (hV I q).1 (List.mem_singleton.mpr rfl)
  have nl : l ∉ V := fun q => by
   rcases (hV l q).2 with z | z
   ·exact hl z
   ·obtain ⟨o,e,_,n,hd⟩ := b;exact z o e _ _ hd
  refine ⟨?_,isTup_move b (k l · nl),r.move k fun b q => (hV b q).2⟩
  obtain ⟨o,e,q⟩ := a;exact ⟨o,k I o nI e,q⟩
 quiet := fun i h ⟨a,_,_⟩ b hb o e xs n q => by
  rw [List.mem_singleton.mp hb] at e
  obtain ⟨o',e',_,d⟩ := a
  rw [e] at e';cases e';rw [d] at q;cases q
 next := fun i s d ⟨a,b,r⟩ hW e => by
  obtain ⟨v,hv,rv⟩ := r.elem e
  refine next_tuple_item a b hv fun h' a' sb => ?_
  have kp : ∀ p o,p ∉ [I] -> s.heap.get? p = some o -> h'.get? p = some o := fun p o np e => sb.extBut p o (fun q => np (q ▸ List.mem_singleton.mpr rfl)) e
  have nq : ∀ p ∈ [I],p ∈ W ∨ NoSeq s.heap p := fun p hp => .inr fun o eo xs n q => by
   rw [List.mem_singleton.mp hp] at eo
   obtain ⟨o',e',_,d⟩ := a
   rw [eo] at e';cases e';rw [d] at q;cases q
  exact ⟨v,rfl,⟨kp,rfl,fun x => x⟩,⟨a',isTup_move b fun o e => kp l o (fun q => hIl (List.mem_singleton.mp q)) e,r.move kp nq⟩,rv.move kp nq⟩
 done := fun s ⟨a,b,r⟩ => by
  refine next_tuple_end hh a b (by have := r.length;simp [this]) fun h' he => ⟨rfl,⟨fun p o np e => he p o (fun q => np (q ▸ List.mem_singleton.mpr rfl)) e,rfl,fun x => x⟩⟩
 live := fun i h st b hb => by rw [List.mem_singleton.mp hb];obtain ⟨o,e,_⟩ := st.1;exact ⟨o,e⟩
 self := fun i s st => wpAny_pyIter_tupleiter st.1 ⟨rfl,rfl⟩
 go := fun t i s d v st _ _ => by
  obtain ⟨o,e,hc,_⟩ := st.1
  exact go_plain e hc rfl ⟨Ext.refl _ _,st⟩
theorem JI.tup {e : Expr} {ds : List D} (ok : c.Ok n) (h : JE c I ρ e (.tup ds)) : JI c I ρ e ds := by
 revert c I ρ n e ds;intros c I ρ n e ds ok h
 intros s S
 refine fin (h s S) ?_
 intros x s1 q
 obtain @⟨l,vs,rfl,hl,hL,hR⟩ := rtup q.2
 have hne : l ≠ s1.heap.objs.size := by obtain @⟨o,e,_⟩ := hL;exact Nat.ne_of_lt (Heap.lt_size e)
 refine iter_tuple hL ⟨[s1.heap.objs.size],_,IterAt.tup (vs := vs) ok.room.hh hne hl,⟨⟨_,Heap.get?_push_size _ rfl,rfl,rfl⟩,isTup_move hL fun o e => Heap.get?_push_of_some _ e,hR.ext Ext.push⟩,q.1.trans Ext.push,fun b hb => ?_,fun d0 hd0 => ⟨_,IterAt.tup (vs := vs) ok.room.hh hne (by obtain @⟨o,e,_⟩ := hL;exact not_wide hl (Heap.get?_push_of_some _ e) hd0),⟨_,Heap.get?_push_size _ rfl,rfl,rfl⟩,isTup_move hL fun o e => Heap.get?_push_of_some _ e,(hR.ext Ext.push).widen hd0⟩⟩
 rw [List.mem_singleton.mp hb]
 cases e : s.heap.get? s1.heap.objs.size with
 | none => rfl
 | some o => exact absurd (Heap.lt_size (q.1.all _ _ e)) (Nat.lt_irrefl _)
noncomputable def signs (x : Str) : List D := x.cps.toList.map fun k => .str ⟨#[k]⟩
theorem IterAt.str {w : World} {A : Around} {W : List Addr} {I : Addr} {x : Str} {t : Tok} {T : String} (hh : A.handled = none) (hT : T = "str_ascii_iterator" ∨ T = "str_iterator") :
  IterAt w A W (.ref I) (signs x) [I] (fun i h => h.IsStrIter I T x t i) where
 frame := fun V h h' i hV k a => by
  have nI : I ∉ V := fun q => (hV I q).1 (List.mem_singleton.mpr rfl)
  obtain ⟨o,e,q⟩ := a;exact ⟨o,k I o nI e,q⟩
 quiet := fun i h a b hb o e xs n q => by
  rw [List.mem_singleton.mp hb] at e
  obtain ⟨o',e',_,d⟩ := a
  rw [e] at e';cases e';rw [d] at q;cases q
 next := fun i s d a hW e => by
  have hk : ∃ k,x.cps[i]? = some k ∧ d = .str ⟨#[k]⟩ := by
   unfold signs at e
   rw [List.getElem?_map] at e
   cases q : x.cps.toList[i]? with
   | none => rw [q] at e;cases e
   | some k => rw [q] at e;exact ⟨k,by simpa using q,by simpa using e.symm⟩
  obtain ⟨k,hk,rfl⟩ := hk
  have main : ∀ h' : Heap,h'.IsStrIter I T x t (i + 1) -> Heap.SameBut I s.heap h' -> ∃ v,some (Value.str ⟨#[k]⟩ s.toks) = some v ∧ Ext [I] s { s with heap := h',toks := s.toks + 1 } ∧ h'.IsStrIter I T x t (i + 1) ∧ Rel W h' (.str ⟨#[k]⟩) v := fun h' a' sb =>
   ⟨_,rfl,⟨fun p o np e => sb.extBut p o (fun q => np (q ▸ List.mem_singleton.mpr rfl)) e,rfl,fun x => x⟩,a',mstr⟩
  rcases hT with rfl | rfl
  ·exact wpAny_pyNext_ascii_item a hk fun h' a' sb => main h' a' sb
  ·exact wpAny_pyNext_wide_item a hk fun h' a' sb => main h' a' sb
 done := fun s a => by
  have hx : x.cps[(signs x).length]? = none := by simp [signs]
  have main : ∀ h' : Heap,Heap.ExtBut I s.heap h' -> (none : Option Value) = none ∧ Ext [I] s { s with heap := h' } := fun h' he => ⟨rfl,⟨fun p o np e => he p o (fun q => np (q ▸ List.mem_singleton.mpr rfl)) e,rfl,fun x => x⟩⟩
  rcases hT with rfl | rfl
  ·exact wpAny_pyNext_ascii_end hh a hx fun h' he => main h' he
  ·exact wpAny_pyNext_wide_end hh a hx fun h' he => main h' he
 live := fun i h st b hb => by rw [List.mem_singleton.mp hb];obtain ⟨o,e,_⟩ := st;exact ⟨o,e⟩
 self := fun i s st => by
  rcases hT with rfl | rfl
  ·exact wpAny_pyIter_striter_ascii st ⟨rfl,rfl⟩
  ·exact wpAny_pyIter_striter_wide st ⟨rfl,rfl⟩
 go := fun t i s d v st _ _ => by
  obtain ⟨o,e,hc,_⟩ := st
  rcases hT with rfl | rfl
  ·exact go_plain e hc rfl ⟨Ext.refl _ _,⟨o,e,hc,by assumption⟩⟩
  ·exact go_plain e hc rfl ⟨Ext.refl _ _,⟨o,e,hc,by assumption⟩⟩
theorem JI.str {e : Expr} {x : Str} (ok : c.Ok n) (h : JE c I ρ e (.str x)) : JI c I ρ e (signs x) := by
 revert c I ρ n e x;intros c I ρ n e x ok h
 intros s S
 refine fin (h s S) ?_
 intros v s1 q
 obtain @⟨t,rfl⟩ := rstr q.2
 have fr : ∀ b ∈ [s1.heap.objs.size],s.heap.get? b = none := fun b hb => by
  rw [List.mem_singleton.mp hb]
  cases e : s.heap.get? s1.heap.objs.size with
  | none => rfl
  | some o => exact absurd (Heap.lt_size (q.1.all _ _ e)) (Nat.lt_irrefl _)
 have hT : strIterType x = "str_ascii_iterator" ∨ strIterType x = "str_iterator" := by unfold strIterType;split <;> simp
 exact wpAny_pyIter_strU ⟨_,_,IterAt.str ok.room.hh hT,⟨_,Heap.get?_push_size _ rfl,rfl,rfl⟩,q.1.trans Ext.push,fr,fun d0 hd0 => ⟨_,IterAt.str ok.room.hh hT,⟨_,Heap.get?_push_size _ rfl,rfl,rfl⟩⟩⟩
noncomputable def rangeL (a c : Int) (k : Nat) : List D := (List.range k).map fun (i : Nat) => .int (a + (i : Int) * c)
theorem rangeL_len {a c : Int} {k : Nat} : (rangeL a c k).length = k := by simp [rangeL]
theorem rangeL_get {a c : Int} {k i : Nat} {d : D} (h : (rangeL a c k)[i]? = some d) : i < k ∧ d = .int (a + (i : Int) * c) := by
 unfold rangeL at h
 rw [List.getElem?_map] at h
 cases q : (List.range k)[i]? with
 | none => rw [q] at h;cases h
 | some j =>
  rw [q] at h
  obtain ⟨hl,e⟩ := List.getElem?_eq_some_iff.mp q
  simp at hl e
  subst e
  exact ⟨hl,by simpa using h.symm⟩
theorem IterAt.range {w : World} {A : Around} {W : List Addr} {I : Addr} {a c : Int} {k : Nat} (hh : A.handled = none) :
  IterAt w A W (.ref I) (rangeL a c k) [I] (fun i h => IsRangeIter h I (a + (i : Int) * c) ((k : Int) - i) c) where
 frame := fun V h h' i hV kp a => by
  have nI : I ∉ V := fun q => (hV I q).1 (List.mem_singleton.mpr rfl)
  exact kp I _ nI a
 quiet := fun i h a b hb o e xs n q => by
  rw [List.mem_singleton.mp hb] at e
  have e' : h.get? I = some _ := a
  rw [e] at e';cases e';cases q
 next := fun i s d a hW e => by
  obtain ⟨hl,rfl⟩ := rangeL_get e
  refine wpAny_pyNext_range_item a (by omega) fun h' a' sb => ?_
  refine ⟨_,rfl,⟨fun p o np e => sb.extBut p o (fun q => np (q ▸ List.mem_singleton.mpr rfl)) e,rfl,fun x => x⟩,?_,mint⟩
  have e1 : (↑(i + 1) : Int) = ↑i + 1 := by omega
  rw [e1,Int.add_mul,Int.one_mul,← Int.add_assoc,show (k : Int) - (↑i + 1) = ↑k - ↑i - 1 by omega]
  exact a'
 done := fun s a => by
  rw [rangeL_len] at a
  exact wpAny_pyNext_range_end hh a (by omega) fun h' he => ⟨rfl,⟨fun p o np e => he p o (fun q => np (q ▸ List.mem_singleton.mpr rfl)) e,rfl,fun x => x⟩⟩
 live := fun i h st b hb => by rw [List.mem_singleton.mp hb];exact ⟨_,st⟩
 self := fun i s st => wpAny_pyIter_rangeiter st ⟨rfl,rfl⟩
 go := fun t i s d v st _ _ => go_plain st rfl rfl ⟨Ext.refl _ _,st⟩
theorem nofree {s s1 : Shared} (e : Ext [] s s1) : ∀ b ∈ [s1.heap.objs.size],s.heap.get? b = none := fun b hb => by
 rw [List.mem_singleton.mp hb]
 cases q : s.heap.get? s1.heap.objs.size with
 | none => rfl
 | some o => exact absurd (Heap.lt_size (e.all _ _ q)) (Nat.lt_irrefl _)
theorem iter_range {w : World} {A : Around} {W : List Addr} {s s1 : Shared} {r : Addr} {a b k : Int} {t u v : Tok} {m : Nat} (hh : A.handled = none) (e : Ext [] s s1) (hr : IsRange s1.heap r a b k t u v) (hs : Builtin.Range.small a b k = true) (hm : Builtin.Range.rangeSize a b k = (m : Int)) :
  wpAny (model PR w) A (pyIter (.ref r)) (fun it s2 => ∃ fp S,IterAt w A W it (rangeL a k m) fp S ∧ S 0 s2.heap ∧ Ext [] s s2 ∧ (∀ b ∈ fp,s.heap.get? b = none) ∧ (∀ d0,s2.heap.get? d0 = none -> ∃ S',IterAt w A (d0 :: W) it (rangeL a k m) fp S' ∧ S' 0 s2.heap)) NoE s1 := by
 have key : IsRangeIter (s1.heap.push { cls := .type "range_iterator",data := .fields #[rawInt a,rawInt (Builtin.Range.rangeSize a b k),rawInt k] }) s1.heap.objs.size (a + ((0 : Nat) : Int) * k) ((m : Int) - ((0 : Nat) : Int)) k := ?_
 refine wpAny_pyIter_range hr hs ⟨_,_,IterAt.range hh,key,e.trans Ext.push,nofree e,fun d0 hd0 => ⟨_,IterAt.range hh,key⟩⟩
 rw [hm,show a + ((0 : Nat) : Int) * k = a by simp,show (m : Int) - ((0 : Nat) : Int) = m by simp]
 exact Heap.get?_push_size _ rfl
theorem boot_range : bootBuiltins (ofString "range") = some (.type "range") := by decide +kernel
theorem boot_enumerate : bootBuiltins (ofString "enumerate") = some (.type "enumerate") := by decide +kernel
theorem boot_len : bootBuiltins (ofString "len") = some (.builtin "len") := by decide +kernel
theorem boot_min : bootBuiltins (ofString "min") = some (.builtin "min") := by decide +kernel
theorem boot_sorted : bootBuiltins (ofString "sorted") = some (.builtin "sorted") := by decide +kernel
theorem boot_iter : bootBuiltins (ofString "iter") = some (.builtin "iter") := by decide +kernel
theorem boot_sum : bootBuiltins (ofString "sum") = some (.builtin "sum") := by decide +kernel
theorem boot_str : bootBuiltins (ofString "str") = some (.type "str") := by decide +kernel
theorem boot_super : bootBuiltins (ofString "super") = some (.type "super") := by decide +kernel
theorem Call_bltn {f : Expr} {args : List Expr} {e : Expr} {pos : Pos} {ds : List D} {v : Value} {Q : Value -> Shared -> Prop} (ok : c.Ok n) (hf : JE c I ρ f (.val v)) (hv : (∃ T,v = .type T) ∨ ∃ id,v = .builtin id) (ha : JEs c I ρ (e :: args) ds)
  {s : Shared} (S : Sta c I ρ s) (k : ∀ vs s',Ext [] s s' -> Rels c.W s'.heap ds vs -> wpAny c.M c.A (call v vs) Q NoE s')
  (he : starEach (e :: args) c.env = (false,eval e c.env) :: starEach args c.env := by rfl) (hplain : ∀ pos,(backTo pos (starEach args c.env)).any (·.1) = false := by intro _;rfl)
  (hq : eval (.Call f (e :: args) [] pos) c.env = (do callWith pos (← eval f c.env) [] (backTo pos (starEach (e :: args) c.env)) (backToKw pos (keywordEach [] c.env))) := by rfl) : wpAny c.M c.A (eval (.Call f (e :: args) [] pos) c.env) Q NoE s := by
 refine Call_ (fin (hf s S) fun u s1 x => ?_) hq
 rw [rval x.2]
 rcases hv with ⟨T,rfl⟩ | ⟨id,rfl⟩
 ·exact PyProof.Rows.callWith_type1 (fin (ha pos s1 (S.ext x.1)) fun vs s2 y => k vs s2 (x.1.trans y.1) y.2) he (hplain pos)
 ·exact PyProof.Rows.callWith_builtin1 (fin (ha pos s1 (S.ext x.1)) fun vs s2 y => k vs s2 (x.1.trans y.1) y.2) he (hplain pos)
end
end
section
theorem SubR.strN {x : Str} {v k : Expr} {i : Int} (N : Nat) (hN : x.length = N) (h1 : -(N : Int) ≤ i) (h2 : i < N) (h3 : N ≤ 16777216 := by decide)
  (hs : ∀ p q,subscripted k false p q = operate [p,q] (getItem p q) := by intro _ _;with_unfolding_all rfl) : BinR (subscriptTail v k) (.str x) (.int i) (.str (Txt.item x i)) := by
 subst hN;exact SubR.str h1 h2 h3 hs
section
variable {c : Cx} {I : Asr c.W} {ρ : List (Str × D)} {n : Nat}
theorem Room.le {A : Around} {m n : Nat} (r : Room A n) (h : m ≤ n) : Room A m := ⟨r.hh,Nat.le_trans (Nat.add_le_add_left h _) r.dp,Nat.le_trans (Nat.add_le_add_left (Nat.mul_le_mul_left 20 h) _) r.un⟩
theorem Sta.stays {s : Shared} (S : Sta c I ρ s) : c.hb.StaysIn s.heap ∧ c.hb.objs.size ≤ s.heap.objs.size := by
 obtain ⟨m,F,_⟩ := S.loc.fr
 exact ⟨F.keep,Nat.le_of_lt (Nat.lt_of_le_of_lt F.above F.ns.lt)⟩
theorem Sta.kin {s : Shared} (ok : c.Ok n) (S : Sta c I ρ s) : (hd.heap_1 c.w.params).In s.heap := fun a o e => S.stays.1 a o (ok.gr.X a o e)
theorem JE.call {x : Str} {px pos : Pos} {e : Expr} {args : List Expr} {ds : List D} {d : D} {f : Addr} {m : Nat} (ok : c.Ok n) (hm : m ≤ n) (hf : JE c I ρ (.Name x px) (.val (.ref f))) (hk : keepIn (hd.heap_1 c.w.params) (.ref f) = true)
  (ha : JEs c I ρ (e :: args) ds) (sp : Spec m f ds d)
  (he : starEach (e :: args) c.env = (false,eval e c.env) :: starEach args c.env := by rfl) (hplain : ∀ pos,(backTo pos (starEach args c.env)).any (·.1) = false := by intro _;rfl) :
  JE c I ρ (.Call (.Name x px) (e :: args) [] pos) d := fun s S => by
 refine Call_ (fin (hf s S) fun u s1 q => ?_) rfl
 rw [rval q.2]
 refine callWith_K (first := []) ok.gr.X hk (fin (ha pos s1 (S.ext q.1)) fun vs s2 y => ?_) he (hplain pos)
 have S2 := (S.ext q.1).ext y.1
 refine ⟨S2.kin ok,?_⟩
 exact fin (sp c.w c.hb c.W c.A s2 vs ok.gr (ok.room.le hm) S2.stays.1 S2.stays.2 ⟨S2.win,ok.wh⟩ y.2) fun v s3 z => ⟨(q.1.trans y.1).trans z.1,z.2⟩
theorem JI.range1 {f e : Expr} {pos : Pos} {i : Int} {k : Nat} (ok : c.Ok n) (hf : JE c I ρ f (.val (.type "range"))) (h : JE c I ρ e (.int i)) (hk : k = i.toNat) (hi : i < 10000) (hi' : -10000 < i)
  (he : starEach [e] c.env = (false,eval e c.env) :: starEach [] c.env := by rfl)
  (hq : eval (.Call f [e] [] pos) c.env = (do callWith pos (← eval f c.env) [] (backTo pos (starEach [e] c.env)) (backToKw pos (keywordEach [] c.env))) := by rfl) : JI c I ρ (.Call f [e] [] pos) (rangeL 0 1 k) := by
 revert c I ρ n f e pos i k;intros c I ρ n f e pos i k ok hf h hk hi hi' he hq
 intros s S
 refine Call_bltn ok hf (.inl ⟨_,rfl⟩) (JEs.cons h JEs.nil he) S ?_ he (fun _ => rfl) hq
 intros vs s1 e1 r
 refine rels1 r ?_;clear r;intros v;intro r1
 obtain @⟨t,rfl⟩ := rint r1
 refine call_range_1 ?_
 have e2 : Ext [] s { s1 with heap := s1.heap.push { cls := .type "range",data := .fields #[.int 0 s1.toks,.int i t,.int 1 (s1.toks + 1)] },toks := s1.toks + 1 + 1 } := e1.trans ⟨fun _ _ _ e => Heap.get?_push_of_some _ e,rfl,fun x => x⟩
 subst hk
 refine fin (iter_range ok.room.hh e2 (IsRange.new ..) ?_ (m := i.toNat) ?_) fun it s3 z => z
 ·simp only [Builtin.Range.small,Builtin.Range.rangeFitsLong,Builtin.Range.rangeSize]
  by_cases h0 : 0 < i
  ·simp [h0];omega
  ·simp [h0];omega
 ·simp only [Builtin.Range.rangeSize]
  by_cases h0 : 0 < i
  ·simp [h0];omega
  ·simp [h0];omega
theorem JI.range2 {f e e' : Expr} {pos : Pos} {i j : Int} {k : Nat} (ok : c.Ok n) (hf : JE c I ρ f (.val (.type "range"))) (h : JE c I ρ e (.int i)) (h' : JE c I ρ e' (.int j)) (hk : k = (j - i).toNat) (hi : -10000 < i) (hj : j < 10000) (hi' : i < 10000) (hj' : -10000 < j)
  (he : starEach [e,e'] c.env = (false,eval e c.env) :: starEach [e'] c.env := by rfl) (he' : starEach [e'] c.env = (false,eval e' c.env) :: starEach [] c.env := by rfl)
  (hq : eval (.Call f [e,e'] [] pos) c.env = (do callWith pos (← eval f c.env) [] (backTo pos (starEach [e,e'] c.env)) (backToKw pos (keywordEach [] c.env))) := by rfl)
  (hplain : ∀ pos,(backTo pos (starEach [e'] c.env)).any (·.1) = false := by intro _;rfl) : JI c I ρ (.Call f [e,e'] [] pos) (rangeL i 1 k) := by
 revert c I ρ n f e e' pos i j k;intros c I ρ n f e e' pos i j k ok hf h h' hk hi hj hi' hj' he he' hq hplain
 intros s S
 refine Call_bltn ok hf (.inl ⟨_,rfl⟩) (JEs.cons h (JEs.cons h' JEs.nil he') he) S ?_ he hplain hq
 intros vs s1 e1 r
 refine rels2 r ?_;clear r;intros v v';intro r1 r3
 obtain @⟨t,rfl⟩ := rint r1
 obtain @⟨t',rfl⟩ := rint r3
 refine call_range_2 ?_
 have e2 : Ext [] s { s1 with heap := s1.heap.push { cls := .type "range",data := .fields #[.int i t,.int j t',.int 1 s1.toks] },toks := s1.toks + 1 } := e1.trans ⟨fun _ _ _ e => Heap.get?_push_of_some _ e,rfl,fun x => x⟩
 subst hk
 refine fin (iter_range ok.room.hh e2 (IsRange.new ..) ?_ (m := (j - i).toNat) ?_) fun it s3 z => z
 ·simp only [Builtin.Range.small,Builtin.Range.rangeFitsLong,Builtin.Range.rangeSize]
  by_cases h0 : i < j
  ·simp [h0];omega
  ·simp [h0];omega
 ·simp only [Builtin.Range.rangeSize]
  by_cases h0 : i < j
  ·simp [h0];omega
  ·simp [h0];omega
theorem JE.len {f e : Expr} {pos : Pos} {ds : List D} (ok : c.Ok n) (hf : JE c I ρ f (.val (.builtin "len"))) (h : JE c I ρ e (.lst ds)) (hl : ds.length ≤ 100000)
  (he : starEach [e] c.env = (false,eval e c.env) :: starEach [] c.env := by rfl)
  (hq : eval (.Call f [e] [] pos) c.env = (do callWith pos (← eval f c.env) [] (backTo pos (starEach [e] c.env)) (backToKw pos (keywordEach [] c.env))) := by rfl) : JE c I ρ (.Call f [e] [] pos) (.int ds.length) := fun s S => by
 refine Call_bltn ok hf (.inr ⟨_,rfl⟩) (JEs.cons h JEs.nil he) S (fun vs s1 e1 r => ?_) he (fun _ => rfl) hq
 refine rels1 r ?_;clear r;intro v r1
 obtain ⟨l,vs,rfl,hl',hL,hR⟩ := rlst r1
 have := hR.length
 refine len_list hL (by simp;omega) ?_
 rw [show (vs.toArray.size : Int) = ds.length by simp [this]]
 exact ⟨e1.trans (Ext.tok _ _ _),mint⟩
end
end
section
section
variable {c : Cx} {I : Asr c.W} {ρ ρ' : List (Str × D)} {n : Nat} {s0 : Shared} {Q : Flow -> Shared -> Prop} {rest : List Stmt}
theorem Sub.nil : Sub [] ρ := fun _ _ e => by cases e
theorem Sub.cons {x : Str} {d : D} (a : ρ.lookup x = some d) (b : Sub ρ' ρ) : Sub ((x,d) :: ρ') ρ := fun y e h => by
 rw [List.lookup_cons] at h
 cases q : y == x with
 | true => rw [q] at h;cases h;rw [beq_iff_eq.mp q];exact a
 | false => rw [q] at h;exact b y e h
theorem Sub.refl : Sub ρ ρ := fun _ _ e => e
theorem Sub.more {x : Str} {d : D} (a : ρ.lookup x = some d) : Sub ((x,d) :: ρ) ρ := Sub.cons a Sub.refl
theorem JS.ifset {x : Str} {px p1 pos : Pos} {t e : Expr} {q : Bool} {d0 d1 : D} (ok : c.Ok n) (h : JT c I ρ t q) (h1 : q = true -> JE c I ρ e d1) (h0 : ρ.lookup x = some d0)
  (k : JP c (Sto c I s0 ((x,if q then d1 else d0) :: ρ)) rest Q)
  (hk : StoOk c x)
  (hs : swapsWith e (some (.Name x px)) p1.line c.env = pure false := by rfl) : JP c (Sto c I s0 ρ) (.If t [.Assign [.Name x px] e p1] [] pos :: rest) Q := by
 refine JS.ifj h (Sto c I s0 ((x,if q then d1 else d0) :: ρ)) (fun hq => ?_) (fun hq => ?_) k
 ·subst hq
  exact JS.assign ok (h1 rfl) (JP.nil fun s S => S) hk hs
 ·subst hq
  exact JP.nil fun s S => S.weak (Sub.more h0)
theorem JS.ifsetS {x : Str} {px p1 pos : Pos} {t e : Expr} {q : Bool} {d0 d1 : Str} (ok : c.Ok n) (h : JT c I ρ t q) (h1 : q = true -> JE c I ρ e (.str d1)) (h0 : ρ.lookup x = some (.str d0))
  (k : JP c (Sto c I s0 ((x,.str (if q then d1 else d0)) :: ρ)) rest Q) (hk : StoOk c x)
  (hs : swapsWith e (some (.Name x px)) p1.line c.env = pure false := by rfl) : JP c (Sto c I s0 ρ) (.If t [.Assign [.Name x px] e p1] [] pos :: rest) Q :=
 JS.ifset ok h h1 h0 (by have : (if q then D.str d1 else D.str d0) = D.str (if q then d1 else d0) := (by split <;> rfl);rw [this];exact k) hk hs
theorem JS.re {ss : List Stmt} (h : Sub ρ' ρ) (k : JP c (Sto c I s0 ρ') ss Q) : JP c (Sto c I s0 ρ) ss Q := k.mono fun s S => S.weak h
theorem JS.end {s1 : Shared} {B : Shared -> Prop} (h : Sub ρ' ρ) : JP c (Sto c I s1 ρ) [] (QT (Sto c I s1 ρ') B Q) := JP.nil fun s S => S.weak h
theorem JE.conv {e : Expr} {d d' : D} (h : JE c I ρ e d) (e1 : d = d') : JE c I ρ e d' := e1 ▸ h
theorem JE.strify {t a b : Expr} {pos : Pos} {q : Bool} {x1 x2 : Str} (h1 : JT c I ρ t q) (h2 : q = true -> JE c I ρ a (.str x1)) (h3 : q = false -> JE c I ρ b (.str x2)) : JE c I ρ (.IfExp t a b pos) (.str (if q then x1 else x2)) :=
 JE.ifx h1 (fun e => by subst e;exact h2 rfl) (fun e => by subst e;exact h3 rfl)
theorem RQ.ret {d : D} {v : Value} {s : Shared} {W : List Addr} (S : Sto c I s0 ρ s) (r : Rel W s.heap d v) : RQ c W s0 d (.ret v) s := ⟨v,.inl rfl,S.ext,r⟩
end
end
section
theorem BinR.inS {x y : Str} : BinR (compareOp .In) (.str y) (.str x) (.bool !(Builtin.Str.occurrences x y 0 x.length 1).isEmpty) := fun w W A s u v hh hu hW r1 r2 => by
 obtain ⟨t,rfl⟩ := rstr r1;obtain ⟨t',rfl⟩ := rstr r2
 exact PyProof.Rows.in_str ⟨Ext.refl _ _,mbool⟩
theorem Rels.strs {W : List Addr} {h : Heap} : ∀ {ys : List Str} {vs : List Value},Rels W h (ys.map .str) vs -> StrsAre vs ys
 | [],vs,x => by
  have : vs = [] := by rw [List.map_nil] at x;unfold Rels at x;exact x
  subst this;exact .nil
 | y :: ys,vs,x => by
  rw [List.map_cons] at x;unfold Rels at x
  obtain ⟨v,r,rfl,a,b⟩ := x
  obtain ⟨t,rfl⟩ := rstr a
  exact .cons y t b.strs
theorem Rels.drop {W : List Addr} {h : Heap} : ∀ {ds : List D} {vs : List Value} (n : Nat),Rels W h ds vs -> Rels W h (ds.drop n) (vs.drop n)
 | _,_,0,x => x
 | [],vs,n + 1,x => by obtain rfl : _ = [] := x;unfold Rels;simp
 | d :: ds,vs,n + 1,x => by
  obtain ⟨v,r,rfl,a,b⟩ := x
  simpa using b.drop n
theorem Rels.take {W : List Addr} {h : Heap} : ∀ {ds : List D} {vs : List Value} (n : Nat),Rels W h ds vs -> Rels W h (ds.take n) (vs.take n)
 | _,_,0,x => by simp [Rels]
 | [],vs,n + 1,x => by obtain rfl : _ = [] := x;simp [Rels]
 | d :: ds,vs,n + 1,x => by
  obtain ⟨v,r,rfl,a,b⟩ := x
  rw [List.take_succ_cons,List.take_succ_cons];unfold Rels
  exact ⟨v,_,rfl,a,b.take n⟩
theorem Rels.append {W : List Addr} {h : Heap} : ∀ {ds es : List D} {vs us : List Value},Rels W h ds vs -> Rels W h es us -> Rels W h (ds ++ es) (vs ++ us)
 | [],es,vs,us,x,y => by obtain rfl : _ = [] := x;simpa using y
 | d :: ds,es,vs,us,x,y => by
  obtain ⟨v,r,rfl,a,b⟩ := x
  rw [List.cons_append,List.cons_append];unfold Rels
  exact ⟨v,_,rfl,a,b.append y⟩
section
variable {c : Cx} {I I' : Asr c.W} {ρ ρ' : List (Str × D)} {n : Nat} {s0 : Shared} {Q : Flow -> Shared -> Prop} {rest : List Stmt}
theorem slice_lst {w : World} {W : List Addr} {A : Around} {s : Shared} {vl vu : Value} {lo hi : Option Int} {l : Addr} {vs : List Value} {ds ds' : List D} {value slice : Expr} (hW : WIn W s.heap) (hl : s.heap.IsList l vs.toArray) (hr : Rels W s.heap ds vs) (pl : IsPart vl lo) (pu : IsPart vu hi)
  (hz : ds.length ≤ 100000) (he : Rels W s.heap ds' (slicePick vs.toArray lo hi none).toList)
  (hs : ∀ o i,subscripted slice false o i = operate [i,o] (getItem o i)) (ht : ∀ o r,letTemporaryGo value o r = pure ()) :
  wpAny (model PR w) A (subscriptTail value slice (.ref l) (.ref s.heap.objs.size)) (fun v s' => Ext [] s s' ∧ Rel W s'.heap (.lst ds') v) NoE { s with heap := s.heap.push { cls := .type "slice",data := .fields #[vl,vu,.none] } } := by
 have hlen := hr.length
 refine subscriptTail_ops (Heap.IsList.typeIs (s := { s with heap := s.heap.push { cls := .type "slice",data := .fields #[vl,vu,.none] } }) (hl.push _)) list_getitem_lookup
  (wpAny_getItem_list_slice (hl.push _) (Heap.IsSliceOf.new ..) pl pu .none (by simp) ?_ (by rw [sizeLine_eq];simp;omega)) (hs _ _) (ht _)
 have e1 : Ext [] s { s with heap := (s.heap.push { cls := .type "slice",data := .fields #[vl,vu,.none] }).push { cls := .type "list",data := .seq (slicePick vs.toArray lo hi none) } } :=
  ⟨fun b o _ e => Heap.get?_push_of_some _ (Heap.get?_push_of_some _ e),rfl,fun x => x⟩
 refine ⟨e1,?_⟩
 unfold Rel
 refine ⟨_,(slicePick vs.toArray lo hi none).toList,rfl,?_,⟨_,Heap.get?_push_size _ rfl,rfl,_,by rw [Array.toArray_toList]⟩,he.ext e1⟩
 rw [Heap.size_push]
 intro q
 obtain ⟨o,e⟩ := hW _ q
 exact absurd (Heap.lt_size e) (Nat.not_lt.mpr (Nat.le_succ _))
theorem JE.slice {v a b : Expr} {p pos : Pos} {ds : List D} {i j : Nat} (ok : c.Ok n) (h : JE c I ρ v (.lst ds)) (ha : JE c I ρ a (.int i)) (hb : JE c I ρ b (.int j)) (hij : i ≤ j) (hj : j ≤ ds.length) (hz : ds.length ≤ 100000)
  (hs : ∀ o k,subscripted (.Slice (some a) (some b) none p) false o k = operate [k,o] (getItem o k) := by intro _ _;with_unfolding_all rfl) (ht : ∀ o r,letTemporaryGo v o r = pure () := by intro _ _;with_unfolding_all rfl) :
  JE c I ρ (.Subscript v (.Slice (some a) (some b) none p) pos) (.lst ((ds.drop i).take (j - i))) := fun s S => by
 refine Subscript_ (fin (h s S) fun x s1 q => ?_)
 have S1 := S.ext q.1
 refine wpAny_Slice (fin (ha s1 S1) fun y s2 q2 => fin (hb s2 (S1.ext q2.1)) fun z s3 q3 => wpAny_pure ?_)
 have S3 := (S1.ext q2.1).ext q3.1
 have r1 := (q.2.ext q2.1).ext q3.1
 obtain ⟨l,vs,rfl,hl,hL,hR⟩ := rlst r1
 obtain ⟨t,rfl⟩ := rint (q2.2.ext q3.1)
 obtain ⟨t',rfl⟩ := rint q3.2
 have hlen := hR.length
 refine fin (slice_lst (lo := some (i : Int)) (hi := some (j : Int)) (ds' := (ds.drop i).take (j - i)) S3.win hL hR (.int _ _) (.int _ _) hz ?_ hs ht) fun u s4 q4 => ⟨((q.1.trans q2.1).trans q3.1).trans q4.1,q4.2⟩
 rw [slicePick_run _ _ _ (by simp;omega) hij]
 simpa using (hR.drop i).take (j - i)
theorem JE.sliceTo {v b : Expr} {p pos : Pos} {ds : List D} {j : Nat} (ok : c.Ok n) (h : JE c I ρ v (.lst ds)) (hb : JE c I ρ b (.int j)) (hz : ds.length ≤ 100000)
  (hs : ∀ o k,subscripted (.Slice none (some b) none p) false o k = operate [k,o] (getItem o k) := by intro _ _;with_unfolding_all rfl) (ht : ∀ o r,letTemporaryGo v o r = pure () := by intro _ _;with_unfolding_all rfl) :
  JE c I ρ (.Subscript v (.Slice none (some b) none p) pos) (.lst (ds.take j)) := fun s S => by
 refine Subscript_ (fin (h s S) fun x s1 q => ?_)
 have S1 := S.ext q.1
 refine wpAny_Slice (wpAny_pure (fin (hb s1 S1) fun y s2 q2 => wpAny_pure ?_))
 have S2 := S1.ext q2.1
 obtain ⟨l,vs,rfl,hl,hL,hR⟩ := rlst (q.2.ext q2.1)
 obtain ⟨t,rfl⟩ := rint q2.2
 have hlen := hR.length
 refine fin (slice_lst (lo := none) (hi := some (j : Int)) (ds' := ds.take j) S2.win hL hR .none (.int _ _) hz ?_ hs ht) fun u s4 q4 => ⟨(q.1.trans q2.1).trans q4.1,q4.2⟩
 by_cases hj : j ≤ vs.length
 ·rw [slicePick_upto _ _ (by simpa using hj)]
  simpa using hR.take j
 ·have e : slicePick vs.toArray none (some (j : Int)) none = slicePick vs.toArray none (some (vs.length : Int)) none := by
   unfold slicePick sliceBounds
   simp
   have h0 : ¬ ((j : Int) < 0) := by omega
   have h1 : ¬ ((vs.length : Int) < 0) := by omega
   simp only [h0,h1,if_false]
   rw [Int.min_eq_right (by omega),Int.min_self]
  rw [e,slicePick_upto _ _ (by simp)]
  have h2 : ds.take j = ds := List.take_of_length_le (by omega)
  rw [h2]
  simpa using hR
theorem strs_sum_le {ys : List Str} {B : Nat} (h : ∀ y ∈ ys,y.length ≤ B) : (ys.map (·.length)).sum ≤ ys.length * B := by
 induction ys with
 | nil => simp
 | cons y r ih =>
  have h1 := h y (List.mem_cons_self ..)
  have h2 := ih fun z hz => h z (List.mem_cons_of_mem _ hz)
  simp only [List.map_cons,List.sum_cons,List.length_cons,Nat.add_mul,Nat.one_mul]
  omega
theorem JE.join {o e : Expr} {apos pos : Pos} {x : Str} {ys : List Str} (ok : c.Ok n) (h : JE c I ρ o (.str x)) (he : JE c I ρ e (.lst (ys.map .str))) (hx : x.length ≤ 16) (hw : (ys.map (·.length)).sum + ys.length ≤ 1048576)
  (hm : ∃ pl,eval (.Call (.Attribute o (ofString "join") apos) [e] [] pos) c.env = (do
   let ov ← eval o c.env
   standAt apos.atName
   let (f,first) ← holding [ov] (getMethod ov (ofString "join") pl)
   callWith pos f first (backTo pos (starEach [e] c.env)) []) := by exact ⟨_,rfl⟩)
  (hst : starEach [e] c.env = (false,eval e c.env) :: starEach [] c.env := by rfl) :
  JE c I ρ (.Call (.Attribute o (ofString "join") apos) [e] [] pos) (.str (Txt.join x ys)) := by
 revert c I ρ n o e apos pos x ys;intros c I ρ n o e apos pos x ys ok h he hx hw hm hst
 intros s S
 obtain @⟨pl,hm⟩ := hm
 refine MethodCall_ (pl := pl) (fin (h s S) ?_) hm
 intros ov s1 q
 obtain @⟨t,rfl⟩ := rstr q.2
 refine GM.join (callWith_method1 (fin (JEs.cons he JEs.nil hst pos s1 (S.ext q.1)) ?_) hst)
 intros vs s2 q2
 have r := q2.2
 refine rels1 r ?_;clear r;intros v;intro r1
 obtain @⟨l,vs,rfl,hl,hL,hR⟩ := rlst r1
 exact join_listW hL (by simpa using hR.strs) hx hw fun t' k => ⟨(q.1.trans q2.1).trans (Ext.tok _ _ _),mstr⟩
end
noncomputable def Asr.list {W : List Addr} (a : Addr) (ha : a ∈ W) (ds : List D) : Asr W where
 P := fun h => ∃ vs k,h.get? a = some { cls := .type "list",data := .seq (List.toArray vs) k } ∧ Rels W h ds vs
 st := fun V h h' k hV ⟨vs,m,e,r⟩ => ⟨vs,m,k a _ (fun q => (hV a q).1 ha) e,r.move k fun b q => .inr (hV b q).2⟩
noncomputable def Cx.own (c : Cx) (a : Addr) : Cx := { c with W := a :: c.W,U := a :: c.U }
mutual
theorem Rel.narrow {W : List Addr} {h : Heap} {a : Addr} : ∀ {d : D} {v : Value},Rel (a :: W) h d v -> Rel W h d v
 | .int _,_,x => x
 | .str _,_,x => x
 | .bool _,_,x => x
 | .non,_,x => x
 | .val _,_,x => x
 | .tup l,v,x => by
  unfold Rel at x ⊢
  obtain ⟨b,vs,e,hb,ht,r⟩ := x
  exact ⟨b,vs,e,fun q => hb (List.mem_cons_of_mem _ q),ht,Rels.narrow r⟩
 | .lst l,v,x => by
  unfold Rel at x ⊢
  obtain ⟨b,vs,e,hb,ht,r⟩ := x
  exact ⟨b,vs,e,fun q => hb (List.mem_cons_of_mem _ q),ht,Rels.narrow r⟩
theorem Rels.narrow {W : List Addr} {h : Heap} {a : Addr} : ∀ {ds : List D} {vs : List Value},Rels (a :: W) h ds vs -> Rels W h ds vs
 | [],_,x => by unfold Rels at x ⊢;exact x
 | d :: ds,vs,x => by
  unfold Rels at x ⊢
  obtain ⟨v,r,e,p,q⟩ := x
  exact ⟨v,r,e,Rel.narrow p,Rels.narrow q⟩
end
theorem Ext.drop {c : Cx} {a : Addr} {s0 s1 s' : Shared} (x : Ext c.V s0 s1) (hn : s0.heap.get? a = none) (y : Ext (c.own a).V s1 s') : Ext c.V s0 s' :=
 ⟨fun p o np e => y.keep p o (fun q => by
  rcases List.mem_append.mp q with q | q
  ·rcases List.mem_cons.mp q with rfl | q
   ·rw [hn] at e;cases e
   ·exact np (List.mem_append_left _ q)
  ·exact np (List.mem_append_right _ q)) (x.keep p o np e),y.os.trans x.os,fun g => y.gens (x.gens g)⟩
end
section
section
variable {c : Cx} {I I' : Asr c.W} {ρ ρ' : List (Str × D)} {n : Nat} {s0 : Shared} {Q : Flow -> Shared -> Prop} {rest : List Stmt}
theorem Sta.upd {V : List Addr} {s s' : Shared} (ok : c.Ok n) (S : Sta c I ρ s) (e : Ext V s s') (hV : ∀ b ∈ V,b ∈ c.U) (live : ∀ b ∈ V,∃ o,s'.heap.get? b = some o) (asr : I'.P s'.heap) : Sta c I' ρ s' := by
 have hfv := S.loc.noSeq
 obtain ⟨⟨⟨m,F,hv⟩,cl,lo⟩,win,_⟩ := S
 have out : ∀ b,b ∈ FV c.env -> b ∉ V := fun b q q' => (hfv b q).1 (ok.sub b (hV b q'))
 have rm : ∀ {d : D} {v : Value},Rel c.W s.heap d v -> Rel c.W s'.heap d v := fun x => x.move e.keep fun b q => .inl (ok.sub b (hV b q))
 have cm : ∀ {n : Str} {a : Addr},(n,a) ∈ c.env.cells -> ∀ o,s.heap.get? a = some o -> s'.heap.get? a = some o := fun hm o eo => e.keep _ o (out _ (List.mem_cons_of_mem _ (List.mem_map_of_mem (f := (·.2)) hm))) eo
 refine ⟨⟨⟨m,⟨?_,fun b o eb => e.keep b o (fun q => ?_) (F.keep b o eb),F.above⟩,fun x d ex => ?_⟩,fun n a hm => ⟨let ⟨v,y⟩ := (cl n a hm).1;⟨v,isCell_move y (cm hm)⟩,(cl n a hm).2⟩,lo⟩,fun b hb => ?_,asr⟩
 ·exact F.ns.at' fun o eo => e.keep _ o (out _ (List.mem_cons_self ..)) eo
 ·have := ok.uh b (hV b q);rw [eb] at this;cases this
 ·rcases hv x d ex with ⟨h1,v,h2,h3⟩ | ⟨h1,a,v,h2,h3,h4⟩
  ·exact .inl ⟨h1,v,h2,rm h3⟩
  ·exact .inr ⟨h1,a,v,h2,isCell_move h3 (cm (mem_of_lookup h2)),rm h4⟩
 ·by_cases q : b ∈ V
  ·exact live b q
  ·obtain ⟨o,eo⟩ := win b hb
   exact ⟨o,e.keep b o q eo⟩
theorem Cx.Ok.own {a : Addr} (ok : c.Ok n) (h : c.hb.get? a = none) : (c.own a).Ok n :=
 ⟨ok.gr,ok.env,ok.room,fun b q => by
  rcases List.mem_cons.mp q with rfl | q
  ·exact List.mem_cons_self ..
  ·exact List.mem_cons_of_mem _ (ok.sub b q),fun b q => by
  rcases List.mem_cons.mp q with rfl | q
  ·exact h
  ·exact ok.wh b q⟩
theorem Sta.take {a : Addr} {s s' : Shared} (S : Sta c I ρ s) (e : Ext [] s s') (hn : s.heap.get? a = none) (hs : ∃ o,s'.heap.get? a = some o) {I' : Asr (c.own a).W} (asr : I'.P s'.heap) : Sta (c.own a) I' ρ s' := by
 obtain ⟨⟨⟨m,F,hv⟩,cl,lo⟩,win,_⟩ := S
 refine ⟨⟨⟨m,⟨F.ns.at' fun o eo => e.all _ o eo,fun b o eb => e.all b o (F.keep b o eb),F.above⟩,fun x d ex => ?_⟩,fun n a' hm => ⟨let ⟨v,y⟩ := (cl n a' hm).1;⟨v,isCell_move y (e.all a')⟩,fun q => ?_⟩,fun q => ?_⟩,fun b hb => ?_,asr⟩
 ·rcases hv x d ex with ⟨h1,v,h2,h3⟩ | ⟨h1,b,v,h2,h3,h4⟩
  ·exact .inl ⟨h1,v,h2,(h3.widen hn).ext e⟩
  ·exact .inr ⟨h1,b,v,h2,isCell_move h3 (e.all b),(h4.widen hn).ext e⟩
 ·rcases List.mem_cons.mp q with rfl | q
  ·obtain ⟨v,o,eo,_⟩ := (cl n _ hm).1;rw [hn] at eo;cases eo
  ·exact (cl n a' hm).2 q
 ·rcases List.mem_cons.mp q with q | q
  ·obtain ⟨o,_,_,eo,_⟩ := F.ns
   have eo' : s.heap.get? c.env.locals = some o := eo
   have q' : c.env.locals = a := q
   rw [q',hn] at eo';cases eo'
  ·exact lo q
 ·rcases List.mem_cons.mp hb with rfl | hb
  ·exact hs
  ·obtain ⟨o,eo⟩ := win b hb;exact ⟨o,e.all b o eo⟩
theorem JS.newlist {x : Str} {px p pos : Pos} (ok : c.Ok n) (k : ∀ a s1,s0.heap.get? a = none -> a ∉ c.W -> Ext c.V s0 s1 -> c.hb.get? a = none ->
   JP (c.own a) (Sto (c.own a) (Asr.list a (List.mem_cons_self ..) []) s1 ((x,.val (.ref a)) :: ρ)) rest Q)
  (hk : StoOk c x) (hs : swapsWith (.List [] p) (some (.Name x px)) pos.line c.env = pure false := by rfl) : JP c (Sto c I s0 ρ) (.Assign [.Name x px] (.List [] p) pos :: rest) Q := JP.step fun s S => by
 have e1 : Ext [] s { s with heap := s.heap.push { cls := .type "list",data := .seq #[] } } := Ext.push
 have hn : s.heap.get? s.heap.objs.size = none := by
  cases q : s.heap.get? s.heap.objs.size with
  | none => rfl
  | some o => exact absurd (Heap.lt_size q) (Nat.lt_irrefl _)
 have hn0 : s0.heap.get? s.heap.objs.size = none := by
  cases q : s0.heap.get? s.heap.objs.size with
  | none => rfl
  | some o =>
   by_cases hv : s.heap.objs.size ∈ c.V
   ·obtain ⟨o',e'⟩ := V_live ok S.sta _ hv;rw [hn] at e';cases e'
   ·have := S.ext.keep _ o hv q;rw [hn] at this;cases this
 have hW : s.heap.objs.size ∉ c.W := S.sta.win.fresh
 have hbn : c.hb.get? s.heap.objs.size = none := by
  cases q : c.hb.get? s.heap.objs.size with
  | none => rfl
  | some o => obtain ⟨m,F,_⟩ := S.sta.loc.fr;have := F.keep _ o q;rw [hn] at this;cases this
 refine wpAny_Assign_Name (List_ (spliced_none (wpAny_newList ?_ (by rw [sizeLine_eq];simp)))) hs
 have S1 : Sta (c.own s.heap.objs.size) (Asr.list s.heap.objs.size (List.mem_cons_self ..) []) ρ { s with heap := s.heap.push { cls := .type "list",data := .seq #[] } } :=
  S.sta.take e1 hn ⟨_,Heap.get?_push_size _ rfl⟩ ⟨[],0,Heap.get?_push_size _ rfl,by unfold Rels;rfl⟩
 refine fin (store_var (c := c.own s.heap.objs.size) (ok.own hbn) hk S1 mval) fun _ s2 r => ?_
 have r1 : Ext (FV c.env) _ s2 := r.1
 exact k _ s2 hn0 hW ((S.ext.trans e1.nil).trans (r1.mono fv_sub)) hbn s2 ⟨Ext.refl _ _,r.2⟩
theorem XE.append {o e : Expr} {apos pos : Pos} {a : Addr} {ha : a ∈ c.W} {ds : List D} {d : D} (ok : c.Ok n) (hU : a ∈ c.U) (ho : JE c (Asr.list a ha ds) ρ o (.val (.ref a))) (he : JE c (Asr.list a ha ds) ρ e d) (hz : ds.length ≤ 100000)
  (hm : ∃ pl,eval (.Call (.Attribute o (ofString "append") apos) [e] [] pos) c.env = (do
   let ov ← eval o c.env
   standAt apos.atName
   let (f,first) ← holding [ov] (getMethod ov (ofString "append") pl)
   callWith pos f first (backTo pos (starEach [e] c.env)) []) := by exact ⟨_,rfl⟩)
  (hst : starEach [e] c.env = (false,eval e c.env) :: starEach [] c.env := by rfl) :
  XE c (Asr.list a ha ds) ρ (.Call (.Attribute o (ofString "append") apos) [e] [] pos) .non (Asr.list a ha (ds ++ [d])) := fun s S => by
 obtain ⟨pl,hm⟩ := hm
 refine MethodCall_ (pl := pl) (fin (ho s S) fun ov s1 q => ?_) hm
 rw [rval q.2]
 have S1 := S.ext q.1
 obtain ⟨us,k,eo,rr⟩ := S1.asr
 refine getMethod_list_append eo rfl rfl (callWith_method1 (fin (JEs.cons he JEs.nil hst pos s1 S1) fun vs s2 q2 => ?_) hst)
 have r := q2.2
 refine rels1 r ?_;clear r;intro v r1
 have S2 := S1.ext q2.1
 obtain ⟨us,k,eo,rr⟩ := S2.asr
 have hlen := rr.length
 refine append_at eo (fun h' sb eo' => ?_) (by rw [sizeLine_eq];simp;omega)
 have e3 : Ext [a] s2 { s2 with heap := h' } := ⟨fun b o nb eb => sb.extBut b o (fun q => nb (q ▸ List.mem_singleton.mpr rfl)) eb,rfl,fun x => x⟩
 have hin : ∀ b ∈ [a],b ∈ c.U := fun b q => by rw [List.mem_singleton.mp q];exact hU
 refine ⟨((q.1.trans q2.1).nil.trans (e3.mono hin)),mnon,S2.upd ok e3 hin (fun b q => by rw [List.mem_singleton.mp q];exact ⟨_,eo'⟩) ⟨us ++ [v],k + 1,by rw [eo'];simp,?_⟩⟩
 refine Rels.append (rr.move e3.keep fun b q => .inl (ok.sub b (hin b q))) ?_
 unfold Rels
 exact ⟨v,[],rfl,r1.move e3.keep fun b q => .inl (ok.sub b (hin b q)),by unfold Rels;rfl⟩
theorem JE.joinOwn {o e : Expr} {apos pos : Pos} {x : Str} {ys : List Str} {a : Addr} {ha : a ∈ c.W} (ok : c.Ok n) (h : JE c (Asr.list a ha (ys.map .str)) ρ o (.str x)) (he : JE c (Asr.list a ha (ys.map .str)) ρ e (.val (.ref a))) (hx : x.length ≤ 16) (hw : (ys.map (·.length)).sum + ys.length ≤ 1048576)
  (hm : ∃ pl,eval (.Call (.Attribute o (ofString "join") apos) [e] [] pos) c.env = (do
   let ov ← eval o c.env
   standAt apos.atName
   let (f,first) ← holding [ov] (getMethod ov (ofString "join") pl)
   callWith pos f first (backTo pos (starEach [e] c.env)) []) := by exact ⟨_,rfl⟩)
  (hst : starEach [e] c.env = (false,eval e c.env) :: starEach [] c.env := by rfl) :
  JE c (Asr.list a ha (ys.map .str)) ρ (.Call (.Attribute o (ofString "join") apos) [e] [] pos) (.str (Txt.join x ys)) := fun s S => by
 obtain ⟨pl,hm⟩ := hm
 refine MethodCall_ (pl := pl) (fin (h s S) fun ov s1 q => ?_) hm
 obtain ⟨t,rfl⟩ := rstr q.2
 refine GM.join (callWith_method1 (fin (JEs.cons he JEs.nil hst pos s1 (S.ext q.1)) fun vs s2 q2 => ?_) hst)
 have r := q2.2
 refine rels1 r ?_;clear r;intro v r1
 rw [rval r1]
 obtain ⟨us,k,eo,rr⟩ := ((S.ext q.1).ext q2.1).asr
 exact join_listW ⟨_,eo,rfl,_,rfl⟩ (by simpa using rr.strs) hx hw fun t' k => ⟨(q.1.trans q2.1).trans (Ext.tok _ _ _),mstr⟩
theorem RQ.retOwn {a : Addr} {W : List Addr} {s1 s : Shared} {d : D} {v : Value} {J : Asr (c.own a).W} (hn : s0.heap.get? a = none) (x : Ext c.V s0 s1) (S : Sto (c.own a) J s1 ρ s) (r : Rel (a :: W) s.heap d v) : RQ c W s0 d (.ret v) s :=
 ⟨v,.inl rfl,x.drop hn S.ext,r.narrow⟩
theorem RQ.retList {a : Addr} {s1 s : Shared} {ds : List D} {ha : a ∈ (c.own a).W} (hn : s0.heap.get? a = none) (hW : a ∉ c.W) (x : Ext c.V s0 s1) (S : Sto (c.own a) (Asr.list a ha ds) s1 ρ s) : RQ c c.W s0 (.lst ds) (.ret (.ref a)) s := by
 obtain ⟨us,k,eo,rr⟩ := S.sta.asr
 refine ⟨.ref a,.inl rfl,x.drop hn S.ext,?_⟩
 unfold Rel
 exact ⟨a,us,rfl,hW,⟨_,eo,rfl,_,rfl⟩,rr.narrow⟩
end
end
section
noncomputable def IsStop (h : Heap) (v : Value) : Prop := ∃ e o,v = .ref e ∧ h.get? e = some o ∧ o.cls = .type "StopIteration"
structure DrawAt (w : World) (A : Around) (W : List Addr) (it : Addr) (ds : List D) (S : Nat -> Heap -> Prop) : Prop where
 frame : ∀ (V : List Addr) (h h' : Heap) i,(∀ b ∈ V,b ≠ it ∧ (b ∈ W ∨ NoSeq h b)) -> (∀ b o,b ∉ V -> h.get? b = some o -> h'.get? b = some o) -> S i h -> S i h'
 quiet : ∀ i h,S i h -> NoSeq h it ∧ ∃ o,h.get? it = some o
 item : ∀ i (s : Shared) d,S i s.heap -> ds[i]? = some d -> wpAny (model PR w) A (Builtin.SmallTypes.nextOf (.ref it)) (fun v s' => Ext [it] s s' ∧ S (i + 1) s'.heap ∧ Rel W s'.heap d v) NoE s
 done : ∀ s : Shared,S ds.length s.heap -> wpAny (model PR w) A (Builtin.SmallTypes.nextOf (.ref it)) (fun _ _ => False) (fun e s' => Ext [it] s s' ∧ IsStop s'.heap e) s
theorem ext1 {s : Shared} {I : Addr} {h' : Heap} {t : Nat} (x : Heap.ExtBut I s.heap h') : Ext [I] s { s with heap := h',toks := t } := ⟨fun p o np e => x p o (fun q => np (q ▸ List.mem_singleton.mpr rfl)) e,rfl,fun x => x⟩
theorem quiet1 {h : Heap} {a : Addr} {o : Obj} (e : h.get? a = some o) (hd : ∀ xs n,o.data ≠ .seq xs n) : NoSeq h a ∧ ∃ o,h.get? a = some o :=
 ⟨fun o' e' xs n q => by rw [e] at e';cases e';exact hd _ _ q,o,e⟩
theorem seq_keep {W V : List Addr} {h h' : Heap} {l : Addr} {o : Obj} {xs : Array Value} {n : Nat} (hl : l ∉ W) (e : h.get? l = some o) (hd : o.data = .seq xs n) (hV : ∀ b ∈ V,b ∈ W ∨ NoSeq h b) (k : ∀ b o,b ∉ V -> h.get? b = some o -> h'.get? b = some o) : h'.get? l = some o :=
 k l o (fun q => by
  rcases hV l q with z | z
  ·exact hl z
  ·exact z o e _ _ hd) e
theorem DrawAt.lst {w : World} {A : Around} {W : List Addr} {I l : Addr} {ds : List D} {vs : List Value} (hh : A.handled = none) (hIl : l ≠ I) (hl : l ∉ W) :
  DrawAt w A W I ds (fun i h => h.IsListIter I l i ∧ h.IsList l vs.toArray ∧ Rels W h ds vs) where
 frame := fun V h h' i hV k ⟨a,b,r⟩ => by
  have nI : I ∉ V := fun q => (hV I q).1 rfl
  have kl := b;obtain ⟨o,e,hc,n,hd⟩ := kl
  refine ⟨?_,⟨o,seq_keep hl e hd (fun b q => (hV b q).2) k,hc,n,hd⟩,r.move k fun b q => (hV b q).2⟩
  obtain ⟨o,e,q⟩ := a;exact ⟨o,k I o nI e,q⟩
 quiet := fun i h ⟨a,_,_⟩ => by obtain ⟨o,e,_,d⟩ := a;exact quiet1 e fun _ _ q => by rw [d] at q;cases q
 item := fun i s d ⟨a,b,r⟩ e => by
  obtain ⟨v,hv,rv⟩ := r.elem e
  refine wpAny_nextOf_list_item a b hv fun h' a' sb => ?_
  have kp : ∀ p o,p ∉ [I] -> s.heap.get? p = some o -> h'.get? p = some o := (ext1 (t := s.toks) sb.extBut).keep
  have nq : ∀ p ∈ [I],p ∈ W ∨ NoSeq s.heap p := fun p hp => .inr (by rw [List.mem_singleton.mp hp];obtain ⟨o,e,_,d⟩ := a;exact (quiet1 e fun _ _ q => by rw [d] at q;cases q).1)
  exact ⟨ext1 sb.extBut,⟨a',b.extBut sb.extBut hIl,r.move kp nq⟩,rv.move kp nq⟩
 done := fun s ⟨a,b,r⟩ => wpAny_nextOf_list_end hh a b (by have := r.length;simp [this]) fun h' e he ⟨o,h1,h2⟩ => ⟨ext1 he,e,o,rfl,h1,h2⟩
theorem DrawAt.str {w : World} {A : Around} {W : List Addr} {I : Addr} {x : Str} {t : Tok} {T : String} (hh : A.handled = none) (hT : T = "str_ascii_iterator" ∨ T = "str_iterator") :
  DrawAt w A W I (signs x) (fun i h => h.IsStrIter I T x t i) where
 frame := fun V h h' i hV k a => by
  have nI : I ∉ V := fun q => (hV I q).1 rfl
  obtain ⟨o,e,q⟩ := a;exact ⟨o,k I o nI e,q⟩
 quiet := fun i h a => by obtain ⟨o,e,_,d⟩ := a;exact quiet1 e fun _ _ q => by rw [d] at q;cases q
 item := fun i s d a e => by
  have hk : ∃ k,x.cps[i]? = some k ∧ d = .str ⟨#[k]⟩ := by
   unfold signs at e
   rw [List.getElem?_map] at e
   cases q : x.cps.toList[i]? with
   | none => rw [q] at e;cases e
   | some k => rw [q] at e;exact ⟨k,by simpa using q,by simpa using e.symm⟩
  obtain ⟨k,hk,rfl⟩ := hk
  rcases hT with rfl | rfl
  ·exact wpAny_nextOf_ascii_item a hk fun h' a' sb => ⟨ext1 sb.extBut,a',mstr⟩
  ·exact wpAny_nextOf_wide_item a hk fun h' a' sb => ⟨ext1 sb.extBut,a',mstr⟩
 done := fun s a => by
  have hx : x.cps[(signs x).length]? = none := by simp [signs]
  rcases hT with rfl | rfl
  ·exact wpAny_nextOf_ascii_end hh a hx fun h' e he ⟨o,h1,h2⟩ => ⟨ext1 he,e,o,rfl,h1,h2⟩
  ·exact wpAny_nextOf_wide_end hh a hx fun h' e he ⟨o,h1,h2⟩ => ⟨ext1 he,e,o,rfl,h1,h2⟩
section
variable {w : World} {A : Around} {E : Value -> Shared -> Prop} {s : Shared}
theorem nextOf_tuple_item {it t : Addr} {i : Nat} {items} {x : Value} {Q : Value -> Shared -> Prop} (hit : IsTupIter s.heap it t i) (ht : IsTup s.heap t items) (hx : items[i]? = some x)
  (hQ : ∀ h',IsTupIter h' it t (i + 1) -> Heap.SameBut it s.heap h' -> Q x { s with heap := h' }) : wpAny (model PR w) A (Builtin.SmallTypes.nextOf (.ref it)) Q E s := by
 have hT : s.TypeIs (.ref it) "tuple_iterator" := by obtain ⟨o,e,hc,_⟩ := hit;exact ⟨o,e,hc⟩
 obtain ⟨o,ho,hc,hd⟩ := hit
 obtain ⟨ol,hol,_,nl,hdl⟩ := ht
 unfold Builtin.SmallTypes.nextOf
 refine wpAny_bind (wpAny_callSpecial?_slot (name := ofString "__next__") hT F.slot_tuple_iterator_next
  (wpAny_call_entry F.slot_tuple_iterator_next hT F.entry_tuple_iterator_next ?_ (F.args_tuple_iterator_next_1 _)))
 show wpAny _ _ (field (.ref it) 0 >>= _) _ _ s
 refine wpAny_bind (wpAny_field ho hd (x := .ref t) rfl ?_)
 show wpAny _ _ (if (Value.ref t == Value.none) = true then _ else _) _ _ s
 rw [if_neg (show ¬ ((Value.ref t == Value.none) = true) from Bool.false_ne_true)]
 show wpAny _ _ (field (.ref it) 1 >>= _) _ _ s
 refine wpAny_bind (wpAny_field ho hd (x := .int i 0) rfl ?_)
 show wpAny _ _ (seqItems? (.ref t) >>= _) _ _ s
 refine wpAny_bind (wpAny_seqItems hol hdl ?_)
 simp only [Int.toNat_natCast,hx]
 refine wpAny_bind (wpAny_setField ho hd (by simp) (wpAny_pure ⟨x,rfl,wpAny_pure (hQ _ ?_ (Heap.SameBut.update ..))⟩))
 exact ⟨_,Heap.get?_update_self _ ho (Obj.isFreed_of_fields (Obj.data_mapFields hd _)),(Obj.cls_mapFields ..).trans hc,by
  rw [Obj.data_mapFields hd];simp [rawInt]⟩
theorem nextOf_tuple_end {it t : Addr} {i : Nat} {items} {Q : Value -> Shared -> Prop} (hh : A.handled = none) (hit : IsTupIter s.heap it t i) (ht : IsTup s.heap t items) (hx : items[i]? = none)
  (hE : ∀ h' e,Heap.ExtBut it s.heap h' -> (∃ o,h'.get? e = some o ∧ o.cls = .type "StopIteration") -> E (.ref e) { s with heap := h' }) : wpAny (model PR w) A (Builtin.SmallTypes.nextOf (.ref it)) Q E s := by
 revert w A E s it t i items Q;intros w A E s it t i items Q hh hit ht hx hE
 have hT : s.TypeIs (.ref it) "tuple_iterator" := by obtain @⟨o,e,hc,_⟩ := hit;exact ⟨o,e,hc⟩
 obtain @⟨o,ho,hc,hd⟩ := hit
 obtain @⟨ol,hol,_,nl,hdl⟩ := ht
 unfold Builtin.SmallTypes.nextOf
 refine wpAny_bind (wpAny_callSpecial?_slot (name := ofString "__next__") hT F.slot_tuple_iterator_next
  (wpAny_call_entry F.slot_tuple_iterator_next hT F.entry_tuple_iterator_next ?_ (F.args_tuple_iterator_next_1 _)))
 show wpAny _ _ (field (.ref it) 0 >>= _) _ _ s
 refine wpAny_bind (wpAny_field ho hd (x := .ref t) rfl ?_)
 show wpAny _ _ (if (Value.ref t == Value.none) = true then _ else _) _ _ s
 rw [if_neg (show ¬ ((Value.ref t == Value.none) = true) from Bool.false_ne_true)]
 show wpAny _ _ (field (.ref it) 1 >>= _) _ _ s
 refine wpAny_bind (wpAny_field ho hd (x := .int i 0) rfl ?_)
 show wpAny _ _ (seqItems? (.ref t) >>= _) _ _ s
 refine wpAny_bind (wpAny_seqItems hol hdl ?_)
 simp only [Int.toNat_natCast,hx]
 refine wpAny_bind (wpAny_rule (wpAny_bind (wpAny_setField ho hd (by simp) ?_)))
 show wpAny _ _ (newExc (.type "StopIteration") [] >>= _) _ _ _
 refine wpAny_bind ?_
 simp only [newExc,newTuple]
 refine wpAny_bind (wpAny_newObj_type ?_ (by size_fits))
 refine wpAny_bind (m := firstArgMember _ _) (wpAny_of_eq (a := Value.none) (by first | rfl | (simp only [firstArgMember];rfl)) ?_)
 refine wpAny_newObj_type ?_ (by size_fits)
 simp only [raiseNew]
 refine wpAny_bind (wpAny_handled ?_)
 first | rw [show A.in1.handled = none from hh] | rw [hh]
 refine wpAny_bind (wpAny_pure (wpAny_throw ?_))
 exact hE _ _ (((Heap.SameBut.update ..).extBut.push _).push _) ⟨_,Heap.get?_push_size _ rfl,rfl⟩
end
theorem DrawAt.tup {w : World} {A : Around} {W : List Addr} {I l : Addr} {ds : List D} {vs : List Value} (hh : A.handled = none) (hIl : l ≠ I) (hl : l ∉ W) :
  DrawAt w A W I ds (fun i h => IsTupIter h I l i ∧ IsTup h l vs.toArray ∧ Rels W h ds vs) where
 frame := fun V h h' i hV k ⟨a,b,r⟩ => by
  have nI : I ∉ V := fun q => (hV I q).1 rfl
  have kl := b;obtain ⟨o,e,hc,n,hd⟩ := kl
  refine ⟨?_,⟨o,seq_keep hl e hd (fun b q => (hV b q).2) k,hc,n,hd⟩,r.move k fun b q => (hV b q).2⟩
  obtain ⟨o,e,q⟩ := a;exact ⟨o,k I o nI e,q⟩
 quiet := fun i h ⟨a,_,_⟩ => by obtain ⟨o,e,_,d⟩ := a;exact quiet1 e fun _ _ q => by rw [d] at q;cases q
 item := fun i s d ⟨a,b,r⟩ e => by
  obtain ⟨v,hv,rv⟩ := r.elem e
  refine nextOf_tuple_item a b hv fun h' a' sb => ?_
  have kp : ∀ p o,p ∉ [I] -> s.heap.get? p = some o -> h'.get? p = some o := (ext1 (t := s.toks) sb.extBut).keep
  have nq : ∀ p ∈ [I],p ∈ W ∨ NoSeq s.heap p := fun p hp => .inr (by rw [List.mem_singleton.mp hp];obtain ⟨o,e,_,d⟩ := a;exact (quiet1 e fun _ _ q => by rw [d] at q;cases q).1)
  exact ⟨ext1 sb.extBut,⟨a',isTup_move b fun o e => kp l o (fun q => hIl (List.mem_singleton.mp q)) e,r.move kp nq⟩,rv.move kp nq⟩
 done := fun s ⟨a,b,r⟩ => nextOf_tuple_end hh a b (by have := r.length;simp [this]) fun h' e he ⟨o,h1,h2⟩ => ⟨ext1 he,e,o,rfl,h1,h2⟩
noncomputable def EnumSt (W : List Addr) (h : Heap) (e it : Addr) (i : Nat) : Prop := ∃ o0 o1 old,h.get? e = some { cls := .type "enumerate",dict := none,data := .fields #[o0,o1,.ref it,rawInt i,.none,old],slots := #[] } ∧
 (o0 = .none ∨ ∃ (a : Addr),∃ o xs n,o0 = rawInt (Int.ofNat a) ∧ a ∉ W ∧ h.get? a = some o ∧ o.data = .seq xs n)
noncomputable def enumL (ds : List D) : List D := ds.zipIdx.map fun p => .tup [.int p.2,p.1]
theorem enumL_len {ds : List D} : (enumL ds).length = ds.length := by simp [enumL]
theorem enumL_get {ds : List D} {i : Nat} {d : D} (h : (enumL ds)[i]? = some d) : ∃ d0,ds[i]? = some d0 ∧ d = .tup [.int i,d0] := by
 unfold enumL at h
 rw [List.getElem?_map,List.getElem?_zipIdx] at h
 cases q : ds[i]? with
 | none => rw [q] at h;cases h
 | some d0 => rw [q] at h;exact ⟨d0,rfl,by simpa using h.symm⟩
theorem EnumSt.quiet {W : List Addr} {h : Heap} {e it : Addr} {i : Nat} (x : EnumSt W h e it i) : NoSeq h e ∧ ∃ o,h.get? e = some o := by
 obtain ⟨o0,o1,old,he,_⟩ := x;exact quiet1 he fun _ _ q => by cases q
theorem EnumSt.move {W V : List Addr} {h h' : Heap} {e it : Addr} {i : Nat} (x : EnumSt W h e it i) (he : e ∉ V) (hV : ∀ b ∈ V,b ∈ W ∨ NoSeq h b) (k : ∀ b o,b ∉ V -> h.get? b = some o -> h'.get? b = some o) : EnumSt W h' e it i := by
 obtain ⟨o0,o1,old,h1,h2⟩ := x
 refine ⟨o0,o1,old,k _ _ he h1,h2.imp id fun ⟨a,o,xs,n,z1,z2,z3,z4⟩ => ⟨a,o,xs,n,z1,z2,seq_keep z2 z3 z4 hV k,z4⟩⟩
theorem wpAny_alive {M : Model} {A : Around} {E : Value -> Shared -> Prop} {s : Shared} {a : Addr} {Q : Option Obj -> Shared -> Prop} (h : Q (s.heap.get? a) s) : wpAny M A (loadIfAlive a) Q E s := fun _ _ _ => h
section
variable {w : World} {A : Around} {W : List Addr} {E : Value -> Shared -> Prop} {s : Shared} {e it : Addr} {ds : List D} {S : Nat -> Heap -> Prop} {i : Nat} {d : D}
theorem enum_item (Dr : DrawAt w A W it ds S) (hne : e ≠ it) (he : EnumSt W s.heap e it i) (hst : S i s.heap) (hW : WIn W s.heap) (hd : ds[i]? = some d) :
  wpAny (model PR w) A (Builtin.«enumerate.__next__» ⟨[.ref e],[]⟩) (fun f s' => ∃ v,f = .done (.ret v) ∧ Ext [e,it] s s' ∧ EnumSt W s'.heap e it (i + 1) ∧ S (i + 1) s'.heap ∧ Rel W s'.heap (.tup [.int i,d]) v) NoE s := by
 revert w A W s e it ds S i d;intros w A W s e it ds S i d Dr hne he hst hW hd
 have hq1 := he.quiet
 have hq2 := Dr.quiet _ _ hst
 obtain ⟨o0,o1,old,he0,hal⟩ := he
 show wpAny _ _ (field (.ref e) 2 >>= _) _ _ _
 refine wpAny_bind (wpAny_field he0 rfl (x := .ref it) rfl ?_)
 refine wpAny_bind (fin (Dr.item i s d hst hd) fun x s1 q1 => ?_)
 obtain ⟨e1,st1,r1⟩ := q1
 have ne1 : ∀ b ∈ [it],b ∈ W ∨ NoSeq s.heap b := fun b hb => .inr (by rw [List.mem_singleton.mp hb];exact hq2.1)
 have es1 : EnumSt W s1.heap e it i := EnumSt.move ⟨o0,o1,old,he0,hal⟩ (by simpa using hne) ne1 e1.keep
 have hW1 : WIn W s1.heap := fun b hb => by
  obtain ⟨o,eo⟩ := hW b hb
  by_cases z : b = it
  ·subst z;exact (Dr.quiet _ _ st1).2
  ·exact ⟨o,e1.keep b o (by simpa using z) eo⟩
 clear hq1 hq2 hal he0 ne1 hst
 obtain ⟨o0,o1,old,he1,hal⟩ := es1
 show wpAny _ _ (field (.ref e) 3 >>= _) _ _ _
 refine wpAny_bind (wpAny_field he1 rfl (x := rawInt i) rfl ?_)
 show wpAny _ _ (field (.ref e) 4 >>= _) _ _ _
 refine wpAny_bind (wpAny_field he1 rfl (x := .none) rfl ?_)
 show wpAny _ _ (mkInt i >>= _) _ _ _
 refine wpAny_bind (wpAny_mkInt ?_)
 show wpAny _ _ (setField (.ref e) 3 (rawInt ((i : Int) + 1)) >>= _) _ _ _
 refine wpAny_bind (wpAny_setField_rec he1 (by simp) fun h2 he2 hs2 => ?_)
 replace he2 : h2.get? e = some { cls := .type "enumerate",dict := none,data := .fields #[o0,o1,.ref it,rawInt ((i : Int) + 1),.none,old],slots := #[] } := he2
 show wpAny _ _ (setField (.ref e) 4 .none >>= _) _ _ _
 refine wpAny_bind (wpAny_setField_rec he2 (by simp) fun h3 he3 hs3 => ?_)
 replace he3 : h3.get? e = some { cls := .type "enumerate",dict := none,data := .fields #[o0,o1,.ref it,rawInt ((i : Int) + 1),.none,old],slots := #[] } := he3
 have e3 : Ext [e] s1 { s1 with heap := h3,toks := s1.toks + 1 } := ext1 fun b o hb eb => hs3.extBut b o hb (hs2.extBut b o hb eb)
 have nqe : ∀ b ∈ [e],b ∈ W ∨ NoSeq s1.heap b := fun b hb => .inr (by rw [List.mem_singleton.mp hb];exact (quiet1 he1 fun _ _ q => by cases q).1)
 have hW3 : WIn W h3 := fun b hb => by
  obtain ⟨o,eo⟩ := hW1 b hb
  by_cases z : b = e
  ·subst z;exact ⟨_,he3⟩
  ·exact ⟨o,e3.keep b o (by simpa using z) eo⟩
 have r3 : Rel W h3 d x := r1.move e3.keep nqe
 have st3 : S (i + 1) h3 := Dr.frame [e] _ _ _ (fun b hb => ⟨by rw [List.mem_singleton.mp hb];exact hne,nqe b hb⟩) e3.keep st1
 have es3 : EnumSt W h3 e it (i + 1) := ⟨o0,o1,old,he3,hal.imp id fun ⟨a,o,xs,n,z1,z2,z3,z4⟩ => ⟨a,o,xs,n,z1,z2,seq_keep z2 z3 z4 nqe e3.keep,z4⟩⟩
 show wpAny _ _ (newTuple [.int i s1.toks,x] >>= _) _ _ _
 refine wpAny_bind (fin (new_tuple (W := W) (ds := [.int i,d]) (s := { s1 with heap := h3,toks := s1.toks + 1 }) hW3 (by unfold Rels;exact ⟨_,_,rfl,mint,by unfold Rels;exact ⟨_,_,rfl,r3,by unfold Rels;rfl⟩⟩) (by simp)) fun v s4 q4 => ?_)
 obtain ⟨e4,r4⟩ := q4
 have es4 : EnumSt W s4.heap e it (i + 1) := es3.move (V := []) (fun q => nomatch q) (fun b q => nomatch q) e4.keep
 have st4 : S (i + 1) s4.heap := Dr.frame [] _ _ _ (fun b q => nomatch q) e4.keep st3
 have ee : Ext [e,it] s s4 := ((e1.mono (fun p hp => List.mem_cons_of_mem _ hp)).trans (e3.mono (V' := [e,it]) fun p hp => by rw [List.mem_singleton.mp hp];exact List.mem_cons_self ..)).trans e4.nil
 have stepE : ∀ {h5 : Heap} {s5 : Shared},Heap.SameBut e s5.heap h5 -> NoSeq s5.heap e -> Ext [e,it] s s5 -> S (i + 1) s5.heap -> Rel W s5.heap (.tup [.int i,d]) v ->
   Ext [e,it] s { s5 with heap := h5 } ∧ S (i + 1) h5 ∧ Rel W h5 (.tup [.int i,d]) v := fun {h5 s5} sb nq a b c' => by
  have x5 : Ext [e] s5 { s5 with heap := h5 } := ext1 (t := s5.toks) sb.extBut
  have nq5 : ∀ b ∈ [e],b ∈ W ∨ NoSeq s5.heap b := fun b hb => .inr (by rw [List.mem_singleton.mp hb];exact nq)
  exact ⟨a.trans (x5.mono fun p hp => by rw [List.mem_singleton.mp hp];exact List.mem_cons_self ..),Dr.frame [e] _ _ _ (fun b hb => ⟨by rw [List.mem_singleton.mp hb];exact hne,nq5 b hb⟩) x5.keep b,c'.move x5.keep nq5⟩
 obtain ⟨a,us,rfl,haW,hT,hRs⟩ := rtup r4
 have hae : e ≠ a := fun q => by obtain ⟨o,eo,_,n,hd⟩ := hT;subst q;exact es4.quiet.1 o eo _ _ hd
 show wpAny _ _ (Builtin.SmallTypes.ownedTupleIsFree (.ref e) >>= _) _ _ _
 clear hal he1 he2 he3
 obtain ⟨o0,o1,old,he4,hal⟩ := es4
 have free : wpAny (model PR w) A (do
   rule "enumerate.__next__.owned-tuple-again"
   let old ← field (.ref e) 5
   setField (.ref e) 5 x
   Builtin.SmallTypes.ownedTupleHandOut (.ref e) (.ref a)
   letGo [old] [.ref a]
   ret (.ref a)) (fun f s' => ∃ v,f = .done (.ret v) ∧ Ext [e,it] s s' ∧ EnumSt W s'.heap e it (i + 1) ∧ S (i + 1) s'.heap ∧ Rel W s'.heap (.tup [.int i,d]) v) NoE s4 := by
  refine wpAny_bind (wpAny_rule (wpAny_bind (wpAny_field he4 rfl (x := old) rfl (wpAny_bind (wpAny_setField_rec he4 (by simp) fun h5 he5 hs5 => ?_)))))
  obtain ⟨f5,g5,k5⟩ := stepE hs5 (quiet1 he4 fun _ _ q => by cases q).1 ee st4 r4
  refine wpAny_bind ?_
  unfold Builtin.SmallTypes.ownedTupleHandOut
  refine wpAny_bind (wpAny_setField_rec he5 (by simp) fun h6 he6 hs6 => ?_)
  obtain ⟨f6,g6,k6⟩ := stepE (s5 := { s4 with heap := h5 }) hs6 (quiet1 he5 fun _ _ q => by cases q).1 f5 g5 k5
  refine wpAny_setField_rec he6 (by simp) fun h7 he7 hs7 => ?_
  obtain ⟨f7,g7,k7⟩ := stepE (s5 := { s4 with heap := h6 }) hs7 (quiet1 he6 fun _ _ q => by cases q).1 f6 g6 k6
  refine wpAny_bind (wpAny_letGo (wpAny_pure ⟨_,rfl,f7,⟨rawInt a,.bool false,x,he7,.inr ⟨a,?_⟩⟩,g7,k7⟩))
  obtain ⟨o,eo,_,n,hd⟩ := hT
  exact ⟨o,_,n,rfl,haW,hs7.extBut _ _ (Ne.symm hae) (hs6.extBut _ _ (Ne.symm hae) (hs5.extBut _ _ (Ne.symm hae) eo)),hd⟩
 rcases hal with rfl | ⟨b,o,xs,n,rfl,hbW,hbo,hbd⟩
 ·refine wpAny_bind ?_
  unfold Builtin.SmallTypes.ownedTupleIsFree
  refine wpAny_bind (wpAny_field he4 rfl (x := .none) rfl (wpAny_pure ?_))
  simp only [if_true]
  exact free
 ·have hbe : b ≠ e := fun q => by subst q;rw [he4] at hbo;cases hbo;cases hbd
  have fin5 : ∀ h5 o1',h5.get? e = some { cls := .type "enumerate",dict := none,data := .fields #[rawInt b,o1',.ref it,rawInt ((i + 1 : Nat) : Int),.none,old],slots := #[] } -> h5.get? b = some o -> EnumSt W h5 e it (i + 1) := fun h5 o1' q z =>
   ⟨rawInt b,o1',old,q,.inr ⟨b,o,xs,n,rfl,hbW,z,hbd⟩⟩
  refine wpAny_bind ?_
  unfold Builtin.SmallTypes.ownedTupleIsFree
  refine wpAny_bind (wpAny_field he4 rfl (x := rawInt b) rfl ?_)
  show wpAny _ _ (loadIfAlive (Int.toNat b) >>= _) _ _ _
  refine wpAny_bind (wpAny_alive ?_)
  rw [show Int.toNat (b : Int) = b from Int.toNat_natCast b,hbo]
  simp only [Option.isNone_some,Bool.false_eq_true,if_false]
  refine wpAny_bind (wpAny_field he4 rfl (x := o1) rfl ?_)
  split
  ·refine wpAny_bind (wpAny_setField_rec he4 (by simp) fun h5 he5 hs5 => ?_)
   obtain ⟨f5,g5,k5⟩ := stepE hs5 (quiet1 he4 fun _ _ q => by cases q).1 ee st4 r4
   refine wpAny_pure ?_
   simp only [Bool.false_eq_true,if_false]
   exact wpAny_pure ⟨_,rfl,f5,fin5 _ _ he5 (hs5.extBut _ _ hbe hbo),g5,k5⟩
  ·refine wpAny_pure ?_
   simp only [Bool.false_eq_true,if_false]
   exact wpAny_pure ⟨_,rfl,ee,fin5 _ _ he4 hbo,st4,r4⟩
end
end
theorem EnumSt.step {W : List Addr} {s : Shared} {e it : Addr} {i : Nat} {S : Nat -> Heap -> Prop} {w : World} {A : Around} {ds : List D} (Dr : DrawAt w A W it ds S) (hne : e ≠ it) {h' : Heap} (sb : Heap.SameBut e s.heap h') (he : EnumSt W s.heap e it i) (st : S i s.heap) (es : EnumSt W h' e it i) :
  Ext [e,it] s { s with heap := h' } ∧ EnumSt W h' e it i ∧ S i h' := by
 have x5 : Ext [e] s { s with heap := h' } := ext1 (t := s.toks) sb.extBut
 have nq5 : ∀ b ∈ [e],b ∈ W ∨ NoSeq s.heap b := fun b hb => .inr (by rw [List.mem_singleton.mp hb];exact he.quiet.1)
 exact ⟨x5.mono fun p hp => by rw [List.mem_singleton.mp hp];exact List.mem_cons_self ..,es,Dr.frame [e] _ _ _ (fun b hb => ⟨by rw [List.mem_singleton.mp hb];exact hne,nq5 b hb⟩) x5.keep st⟩
theorem IterAt.enum {w : World} {A : Around} {W : List Addr} {e it : Addr} {ds : List D} {S : Nat -> Heap -> Prop} (Dr : ∀ A : Around,A.handled = none -> DrawAt w A W it ds S) (hh : A.handled = none) (hne : e ≠ it) :
  IterAt w A W (.ref e) (enumL ds) [e,it] (fun i h => EnumSt W h e it i ∧ S i h) where
 frame := fun V h h' i hV k ⟨a,b⟩ =>
  ⟨a.move (fun q => (hV e q).1 (List.mem_cons_self ..)) (fun b q => (hV b q).2) k,(Dr A hh).frame V h h' i (fun b q => ⟨fun z => (hV b q).1 (by rw [z];exact List.mem_cons_of_mem _ (List.mem_cons_self ..)),(hV b q).2⟩) k b⟩
 quiet := fun i h ⟨a,b⟩ p hp => by
  rcases List.mem_cons.mp hp with rfl | hp
  ·exact a.quiet.1
  ·rw [List.mem_singleton.mp hp];exact ((Dr A hh).quiet _ _ b).1
 next := fun i s d ⟨a,b⟩ hW hd => by
  obtain ⟨d0,h0,rfl⟩ := enumL_get hd
  have hT : s.TypeIs (.ref e) "enumerate" := by obtain ⟨_,_,_,he,_⟩ := a;exact ⟨_,he,rfl⟩
  unfold pyNext
  refine wpAny_bind (wpAny_attempt (wpAny_callSpecial?_slot (name := ofString "__next__") hT F.slot_enumerate_next
   (wpAny_call_entry F.slot_enumerate_next hT F.entry_enumerate_next (fin (enum_item (Dr _ hh) hne a b hW h0) fun f s' q => ?_) (F.args_enumerate_next_1 _))))
  obtain ⟨v,rfl,q1,q2,q3,q4⟩ := q
  exact ⟨v,rfl,wpAny_pure ⟨v,rfl,q1,⟨q2,q3⟩,q4⟩⟩
 done := fun s ⟨a,b⟩ => by
  rw [enumL_len] at a b
  obtain ⟨o0,o1,old,he,hal⟩ := a
  have hT : s.TypeIs (.ref e) "enumerate" := ⟨_,he,rfl⟩
  unfold pyNext
  refine wpAny_bind (wpAny_attempt (wpAny_callSpecial?_slot (name := ofString "__next__") hT F.slot_enumerate_next
   (wpAny_call_entry F.slot_enumerate_next hT F.entry_enumerate_next ?_ (F.args_enumerate_next_1 _))))
  show wpAny _ _ (field (.ref e) 2 >>= _) _ _ _
  refine wpAny_bind (wpAny_field he rfl (x := .ref it) rfl ?_)
  refine wpAny_bind (wpAny_mono ((Dr A.in1 hh).done s b) (fun _ _ z => z.elim) (fun x s' q => ?_))
  obtain ⟨q1,x',o,rfl,ho,hc⟩ := q
  refine wpAny_bind (wpAny_isInstance (T := "StopIteration") (b := true) ⟨o,ho,hc⟩ isSubtype_stop ?_)
  exact wpAny_pure ⟨rfl,q1.mono fun p hp => List.mem_cons_of_mem _ hp⟩
 live := fun i h ⟨a,b⟩ p hp => by
  rcases List.mem_cons.mp hp with rfl | hp
  ·exact a.quiet.2
  ·rw [List.mem_singleton.mp hp];exact ((Dr A hh).quiet _ _ b).2
 self := fun i s ⟨a,b⟩ => by
  obtain ⟨o0,o1,old,he,hal⟩ := a
  have hT : s.TypeIs (.ref e) "enumerate" := ⟨_,he,rfl⟩
  refine wpAny_pyIter_slot hT F.slot_enumerate_iter (wpAny_call_entry F.slot_enumerate_iter hT F.entry_enumerate_iter ?_ (F.args_enumerate_iter_1 _))
  show wpAny _ _ (ret (.ref e)) _ _ s
  exact wpAny_pure ⟨_,rfl,"enumerate",_,hT,F.slot_enumerate_next.lookup,rfl,rfl⟩
 go := fun t i s d v ⟨a,b⟩ hd r => by
  obtain ⟨d0,h0,rfl⟩ := enumL_get hd
  obtain ⟨q,us,rfl,_,_,_⟩ := rtup r
  have a' := a
  obtain ⟨o0,o1,old,he,hal⟩ := a'
  refine let_go ⟨Ext.refl _ _,a,b⟩ fun l x p c => ?_
  show wpAny _ _ (load e >>= _) _ _ _
  refine wpAny_bind (wpAny_load he ?_)
  refine wpAny_ite ?_
  split
  ·refine wpAny_bind (wpAny_rule ?_)
   show wpAny _ A (setField (.ref e) 0 .none) _ _ _
   refine wpAny_setField_rec he (by simp) fun h' he' hs' => ?_
   exact EnumSt.step (Dr A hh) hne hs' a b ⟨.none,o1,old,he',.inl rfl⟩
  ·exact wpAny_pure ⟨Ext.refl _ _,a,b⟩
theorem pure_all {M : Model} {A : Around} {α : Type} {Q : α -> Shared -> Prop} {E : Value -> Shared -> Prop} {s : Shared} (h : ∀ b,Q b s) (b : α) : wpAny M A (pure b) Q E s := wpAny_pure (h b)
set_option tactic.hygienic true in
theorem meets_enumerate_newT (l : Addr) (items : Array Value) (n : Nat) (dct : Option Addr) (sl : Array (Option Value)) :
  Meets (Builtin.«enumerate.__new__» ⟨[.type "enumerate",.ref l],[]⟩) (fun _ R s => s.heap.get? l = some { cls := .type "tuple",dict := dct,data := .seq items n,slots := sl } ∧
   R (.ok (.ret (.ref (s.heap.push { cls := .type "tuple_iterator",data := .fields #[.ref l,.int 0 0] }).objs.size)))
    { s with heap := (s.heap.push { cls := .type "tuple_iterator",data := .fields #[.ref l,.int 0 0] }).push { cls := .type "enumerate",data := .fields #[.none,.bool false,.ref s.heap.objs.size,rawInt 0,.none,.none] } }) :=
 .of_wp fun prog w A R s h => by
  obtain ⟨hp,g,d,tk,os⟩ := s;obtain ⟨hl,h⟩ := h
  have hsub := sub_enumerate
  have hL : IsTup (Shared.heap ⟨hp,g,d,tk,os⟩) l items := ⟨_,hl,rfl,n,rfl⟩
  wp_walk using AutoSeq1.wpAny_loadPart' hl
  refine wpAny_stack_any fun st => pure_all (fun c => ?_) _
  cases c
  ·wp_walk using AutoSeq1.wpAny_loadPart' hl,iter_tuple hL
   exact ⟨_,rfl,h⟩
  ·wp_walk using AutoSeq1.wpAny_loadPart' hl,iter_tuple hL
   exact ⟨_,rfl,h⟩
theorem call_enumerate_tuple {w : World} {A : Around} {E : Value -> Shared -> Prop} {s : Shared} {l : Addr} {items : Array Value} {Q : Value -> Shared -> Prop} (hL : IsTup s.heap l items)
  (h : ∀ h',IsEnum h' (s.heap.objs.size + 1) s.heap.objs.size 0 .none -> IsTupIter h' s.heap.objs.size l 0 -> h'.objs.size = s.heap.objs.size + 2 ->
   (∀ b o,s.heap.get? b = some o -> h'.get? b = some o) -> Q (.ref (s.heap.objs.size + 1)) { s with heap := h' }) :
  wpAny (model PR w) A (call (.type "enumerate") [.ref l]) Q E s := by
 obtain ⟨⟨c,dct,dt,sl⟩,hl,hc,n,hd⟩ := hL
 replace hc : c = .type "tuple" := hc
 replace hd : dt = .seq items n := hd
 subst hc hd
 refine callType_new F.called_enumerate (by decide) (F.typeCall_enumerate_1 _) (F.newCall_enumerate_1 _) (fun obj => F.args_object_init_2 obj _) F.entry_enumerate_new
  (meets_enumerate_newT l items n dct sl) ⟨hl,?_⟩
 have hz : (s.heap.push { cls := .type "tuple_iterator",data := .fields #[.ref l,.int 0 0] }).objs.size = s.heap.objs.size + 1 := Heap.size_push ..
 show _ ∧ _
 rw [hz]
 have he : IsEnum ((s.heap.push { cls := .type "tuple_iterator",data := .fields #[.ref l,.int 0 0] }).push
   { cls := .type "enumerate",data := .fields #[.none,.bool false,.ref s.heap.objs.size,rawInt 0,.none,.none] }) (s.heap.objs.size + 1) s.heap.objs.size 0 .none := by
  have := Heap.get?_push_size (s.heap.push { cls := .type "tuple_iterator",data := .fields #[.ref l,.int 0 0] })
   (o := { cls := .type "enumerate",data := .fields #[.none,.bool false,.ref s.heap.objs.size,rawInt 0,.none,.none] }) rfl
  rw [hz] at this;exact this
 refine ⟨⟨_,he,rfl⟩,h _ he ⟨_,Heap.get?_push_of_some _ (Heap.get?_push_size _ rfl),rfl,rfl⟩ (by rw [Heap.size_push,hz]) fun b o x => Heap.get?_push_of_some _ (Heap.get?_push_of_some _ x)⟩
section
section
variable {c : Cx} {I : Asr c.W} {ρ : List (Str × D)} {n : Nat}
theorem nofree2 {s s1 : Shared} (e : Ext [] s s1) : ∀ b ∈ [s1.heap.objs.size + 1,s1.heap.objs.size],s.heap.get? b = none := fun b hb => by
 have hge : s1.heap.objs.size ≤ b := by
  rcases List.mem_cons.mp hb with rfl | hb
  ·exact Nat.le_succ _
  ·rw [List.mem_singleton.mp hb];exact Nat.le_refl _
 cases q : s.heap.get? b with
 | none => rfl
 | some o => exact absurd (Heap.lt_size (e.all _ _ q)) (Nat.not_lt.mpr hge)
theorem enum_fin {w : World} {A : Around} {W : List Addr} {s s1 : Shared} {h' : Heap} {ds : List D} {S : Nat -> Heap -> Prop} {t : Nat} (hh : A.handled = none) (e : Ext [] s s1) (he : IsEnum h' (s1.heap.objs.size + 1) s1.heap.objs.size 0 .none)
  (hk : ∀ b o,s1.heap.get? b = some o -> h'.get? b = some o) (Dr : ∀ A : Around,A.handled = none -> DrawAt w A W s1.heap.objs.size ds S) (st : S 0 h') (hw : ∀ d0,h'.get? d0 = none -> ∃ S',(∀ A : Around,A.handled = none -> DrawAt w A (d0 :: W) s1.heap.objs.size ds S') ∧ S' 0 h') :
  wpAny (model PR w) A (pyIter (.ref (s1.heap.objs.size + 1))) (fun it s2 => ∃ fp S,IterAt w A W it (enumL ds) fp S ∧ S 0 s2.heap ∧ Ext [] s s2 ∧ (∀ b ∈ fp,s.heap.get? b = none) ∧ (∀ d0,s2.heap.get? d0 = none -> ∃ S',IterAt w A (d0 :: W) it (enumL ds) fp S' ∧ S' 0 s2.heap)) NoE { s1 with heap := h',toks := t } :=
 wpAny_pyIter_enum he ⟨_,_,IterAt.enum Dr hh (Nat.succ_ne_self _),⟨⟨_,_,_,he,.inl rfl⟩,st⟩,e.trans ⟨fun b o _ eb => hk b o eb,rfl,fun x => x⟩,nofree2 e,fun d0 hd0 => let ⟨S',Dr',st'⟩ := hw d0 hd0;⟨_,IterAt.enum Dr' hh (Nat.succ_ne_self _),⟨_,_,_,he,.inl rfl⟩,st'⟩⟩
theorem JI.enumT {f e : Expr} {pos : Pos} {ds : List D} (ok : c.Ok n) (hf : JE c I ρ f (.val (.type "enumerate"))) (h : JE c I ρ e (.tup ds))
  (he : starEach [e] c.env = (false,eval e c.env) :: starEach [] c.env := by rfl)
  (hq : eval (.Call f [e] [] pos) c.env = (do callWith pos (← eval f c.env) [] (backTo pos (starEach [e] c.env)) (backToKw pos (keywordEach [] c.env))) := by rfl) : JI c I ρ (.Call f [e] [] pos) (enumL ds) := fun s S => by
 refine Call_bltn ok hf (.inl ⟨_,rfl⟩) (JEs.cons h JEs.nil he) S (fun vs s1 e1 r => ?_) he (fun _ => rfl) hq
 refine rels1 r ?_;clear r;intro v r1
 obtain ⟨l,vs,rfl,hl,hL,hR⟩ := rtup r1
 have hne : l ≠ s1.heap.objs.size := by obtain ⟨o,e,_⟩ := hL;exact Nat.ne_of_lt (Heap.lt_size e)
 refine call_enumerate_tuple hL fun h' he' hit hz hk => ?_
 exact enum_fin ok.room.hh e1 he' hk (fun A hA => DrawAt.tup hA hne hl) ⟨hit,isTup_move hL fun o e => hk _ _ e,hR.move (V := []) (fun b o _ e => hk b o e) fun _ q => nomatch q⟩
  fun d0 hd0 => ⟨_,fun A hA => DrawAt.tup hA hne (by obtain ⟨o,e,_⟩ := hL;exact not_wide hl (hk _ _ e) hd0),hit,isTup_move hL fun o e => hk _ _ e,(hR.move (V := []) (fun b o _ e => hk b o e) fun _ q => nomatch q).widen hd0⟩
theorem JI.enumL {f e : Expr} {pos : Pos} {ds : List D} (ok : c.Ok n) (hf : JE c I ρ f (.val (.type "enumerate"))) (h : JE c I ρ e (.lst ds))
  (he : starEach [e] c.env = (false,eval e c.env) :: starEach [] c.env := by rfl)
  (hq : eval (.Call f [e] [] pos) c.env = (do callWith pos (← eval f c.env) [] (backTo pos (starEach [e] c.env)) (backToKw pos (keywordEach [] c.env))) := by rfl) : JI c I ρ (.Call f [e] [] pos) (Mine.enumL ds) := fun s S => by
 refine Call_bltn ok hf (.inl ⟨_,rfl⟩) (JEs.cons h JEs.nil he) S (fun vs s1 e1 r => ?_) he (fun _ => rfl) hq
 refine rels1 r ?_;clear r;intro v r1
 obtain ⟨l,vs,rfl,hl,hL,hR⟩ := rlst r1
 have hne : l ≠ s1.heap.objs.size := by obtain ⟨o,e,_⟩ := hL;exact Nat.ne_of_lt (Heap.lt_size e)
 refine call_enumerate_list hL fun h' he' hit hz hk => ?_
 exact enum_fin ok.room.hh e1 he' hk (fun A hA => DrawAt.lst hA hne hl) ⟨hit,isList_move hL fun o e => hk _ _ e,hR.move (V := []) (fun b o _ e => hk b o e) fun _ q => nomatch q⟩
  fun d0 hd0 => ⟨_,fun A hA => DrawAt.lst hA hne (by obtain ⟨o,e,_⟩ := hL;exact not_wide hl (hk _ _ e) hd0),hit,isList_move hL fun o e => hk _ _ e,(hR.move (V := []) (fun b o _ e => hk b o e) fun _ q => nomatch q).widen hd0⟩
theorem strIter_T (x : Str) : strIterType x = "str_ascii_iterator" ∨ strIterType x = "str_iterator" := by unfold strIterType;split <;> simp
theorem JI.enumS {f e : Expr} {pos : Pos} {x : Str} (ok : c.Ok n) (hf : JE c I ρ f (.val (.type "enumerate"))) (h : JE c I ρ e (.str x))
  (he : starEach [e] c.env = (false,eval e c.env) :: starEach [] c.env := by rfl)
  (hq : eval (.Call f [e] [] pos) c.env = (do callWith pos (← eval f c.env) [] (backTo pos (starEach [e] c.env)) (backToKw pos (keywordEach [] c.env))) := by rfl) : JI c I ρ (.Call f [e] [] pos) (Mine.enumL (signs x)) := fun s S => by
 refine Call_bltn ok hf (.inl ⟨_,rfl⟩) (JEs.cons h JEs.nil he) S (fun vs s1 e1 r => ?_) he (fun _ => rfl) hq
 refine rels1 r ?_;clear r;intro v r1
 obtain ⟨t,rfl⟩ := rstr r1
 refine call_enumerate_str fun h' he' hit hz hk => ?_
 exact enum_fin ok.room.hh e1 he' hk (fun A hA => DrawAt.str hA (strIter_T x)) hit fun d0 hd0 => ⟨_,fun A hA => DrawAt.str hA (strIter_T x),hit⟩
theorem JE.globD {x : Str} {pos : Pos} {v : Value} {d : D} (ok : c.Ok n) (e : nsIn (hd.heap_1 c.w.params) mainGlobals x = some (some v)) (hk : c.env.kindOf x = some .globalImplicit)
  (hr : ∀ s,Sta c I ρ s -> (hd.heap_1 c.w.params).In s.heap -> Rel c.W s.heap d v) (hd : (x == ("__debug__" : Str)) = false := by decide) : JE c I ρ (.Name x pos) d := fun s S =>
 wpAny_Name (load_glob ok e hk S ⟨Ext.refl _ _,hr s S (S.kin ok)⟩) hd
end
end
section
section
variable {c : Cx} {I : Asr c.W} {ρ : List (Str × D)} {n : Nat} {s0 : Shared} {Q : Flow -> Shared -> Prop} {rest : List Stmt}
theorem Sto.rebase' {s1 s : Shared} (x : Ext c.V s0 s1) (S : Sto c I s1 ρ s) : Sto c I s0 ρ s := S.rebase x
end
noncomputable def vInt : Value -> Option Int
 | .int j _ => some j
 | _ => none
noncomputable def vStr : Value -> Option Str
 | .str y _ => some y
 | _ => none
noncomputable def vRef : Value -> Option Addr
 | .ref a => some a
 | _ => none
noncomputable def vTyp : Value -> Option String
 | .type n => some n
 | _ => none
noncomputable def dSeq : Data -> Option (Array Value)
 | .seq xs _ => some xs
 | _ => none
noncomputable def tupOf (o : Obj) : Option (Array Value) := if vTyp o.cls = some "tuple" then dSeq o.data else none
theorem of_elim {α : Type} {o : Option α} {P : α -> Prop} (h : o.elim True P) {a : α} (e : o = some a) : P a := by subst e;exact h
theorem vInt_ok (v : Value) : (vInt v).elim True fun i => ∃ t,v = .int i t := by cases v <;> first | exact trivial | exact ⟨_,rfl⟩
theorem vStr_ok (v : Value) : (vStr v).elim True fun i => ∃ t,v = .str i t := by cases v <;> first | exact trivial | exact ⟨_,rfl⟩
theorem vRef_ok (v : Value) : (vRef v).elim True fun i => v = .ref i := by cases v <;> first | exact trivial | exact rfl
theorem vTyp_ok (v : Value) : (vTyp v).elim True fun i => v = .type i := by cases v <;> first | exact trivial | exact rfl
theorem dSeq_ok (v : Data) : (dSeq v).elim True fun xs => ∃ k,v = .seq xs k := by cases v <;> first | exact trivial | exact ⟨_,rfl⟩
theorem tupOf_some {o : Obj} {xs : Array Value} (h : tupOf o = some xs) : o.cls = .type "tuple" ∧ ∃ k,o.data = .seq xs k := by
 unfold tupOf at h
 by_cases g : vTyp o.cls = some "tuple"
 ·rw [if_pos g] at h
  exact ⟨of_elim (vTyp_ok _) g,of_elim (dSeq_ok _) h⟩
 ·rw [if_neg g] at h;cases h
noncomputable def relIn (K : Frag) : Nat -> D -> Value -> Bool
 | 0,_,_ => false
 | n + 1,d,v => match d with
  | .int i => vInt v == some i
  | .str x => vStr v == some x
  | .tup l => (vRef v).any fun a => ((K.lookup a).bind tupOf).any fun xs => l.length == xs.size && (l.zip xs.toList).all fun p => relIn K n p.1 p.2
  | _ => false
theorem rels_zip {W : List Addr} {h : Heap} : ∀ {l : List D} {xs : List Value},l.length = xs.length -> (∀ p ∈ l.zip xs,Rel W h p.1 p.2) -> Rels W h l xs
 | [],[],_,_ => by unfold Rels;rfl
 | d :: l,x :: xs,e,k => by
  unfold Rels
  exact ⟨x,xs,rfl,k (d,x) (List.mem_cons_self ..),rels_zip (by simpa using e) fun p hp => k p (List.mem_cons_of_mem _ hp)⟩
 | [],_ :: _,e,_ => by simp at e
 | _ :: _,[],e,_ => by simp at e
set_option tactic.hygienic true in
theorem rel_of_in {K : Frag} {W : List Addr} {h : Heap} (X : K.In h) (hW : ∀ b ∈ W,K.lookup b = none) : ∀ (n : Nat) {d : D} {v : Value},relIn K n d v = true -> Rel W h d v := by
 intro n
 induction n with
 | zero => intro d v e;exact nomatch (show false = true from e)
 | succ n ih =>
  intro d v e
  cases d with
  | int i =>
   obtain ⟨t,rfl⟩ := of_elim (vInt_ok v) (beq_iff_eq.mp e)
   exact mint
  | str x =>
   obtain ⟨t,rfl⟩ := of_elim (vStr_ok v) (beq_iff_eq.mp e)
   exact mstr
  | tup l =>
   obtain ⟨b,e1,e⟩ := (Option.any_eq_true _ _).mp e
   obtain rfl := of_elim (vRef_ok v) e1
   obtain ⟨xs,e1,e⟩ := (Option.any_eq_true _ _).mp e
   obtain ⟨o,hk,e1⟩ := Option.bind_eq_some_iff.mp e1
   obtain ⟨e2,e3⟩ := Bool.and_eq_true_iff.mp e
   obtain ⟨hc,k,hd⟩ := tupOf_some e1
   exact ⟨b,xs.toList,rfl,fun q => (nomatch (hW b q).symm.trans hk),⟨o,X _ _ hk,hc,k,hd⟩,rels_zip (beq_iff_eq.mp e2) fun p hp => ih (List.all_eq_true.mp e3 p hp)⟩
  | _ => exact nomatch (show false = true from e)
theorem Cx.Ok.kn {c : Cx} {n : Nat} (ok : c.Ok n) : ∀ b ∈ c.W,(hd.heap_1 c.w.params).lookup b = none := fun b q => by
 cases e : (hd.heap_1 c.w.params).lookup b with
 | none => rfl
 | some o => have := ok.gr.X b o e;rw [ok.wh b q] at this;cases this
noncomputable def fmTables : List (List (Int × Str)) :=
 [[(40960,"l"),(49152,"s"),(32768,"-"),(24576,"b"),(16384,"d"),(8192,"c"),(4096,"p")],
  [(256,"r")],[(128,"w")],[(2112,"s"),(2048,"S"),(64,"x")],
  [(32,"r")],[(16,"w")],[(1032,"s"),(1024,"S"),(8,"x")],
  [(4,"r")],[(2,"w")],[(513,"t"),(512,"T"),(1,"x")]]
noncomputable def fmRow (t : List (Int × Str)) : List D := t.map fun p => .tup [.int p.1,.str p.2]
noncomputable def fmD : D := .tup (fmTables.map fun t => .tup (fmRow t))
theorem fm_in (P : Params) : relIn (hd.heap_1 P) 4 fmD (.ref 245) = true := by kernel_rfl
end
section
noncomputable def compTests (ifs : List Expr) (env : Env) : Sem Bool := forIn ifs true fun c r => if r = true then do let ok ← isTrue c env (eval c env);pure (ForInStep.yield ok) else pure (ForInStep.yield r)
noncomputable def compEmit (elt : Expr) (gens : List Comprehension) (scope : Scope) (pos : Pos) (k : Nat) (acc : Value) (env : Env) : Sem Unit := match gens[k + 1]? with
 | some g' => do
  let x ← eval g'.iter env
  standAt g'.iter.pos
  if (g'.is_async != 0) = true then do
    let x ← foldedIterable g'.iter x
    let it ← holding [x] (if (g'.is_async != 0) = true then asyncIter x else pyIter x)
    let _ ← runOwn (Code.compStart (elt.ListComp gens scope pos) (k + 1) it acc env) env
    pure ()
   else do
    let x ← foldedSetIterable g'.iter env x
    let it ← holding [x] (if (g'.is_async != 0) = true then asyncIter x else pyIter x)
    let _ ← runOwn (Code.compStart (elt.ListComp gens scope pos) (k + 1) it acc env) env
    pure ()
 | none => do
  let x ← eval elt env
  let _ ← call (Value.builtin "list.append") [acc,x]
  pure ()
section
variable {w : World} {A : Around} {s : Shared}
theorem comp_loop {elt target iter : Expr} {ifs : List Expr} {gens : List Comprehension} {scope : Scope} {pos : Pos} {it acc : Value} {k : Nat} {cenv : Env} {R : Result -> Shared -> Prop} (hg : gens[k]? = some ⟨target,iter,ifs,0⟩) (I : Nat -> Shared -> Prop)
  (turn : ∀ n s,I n s -> wpAny (model PR w) A (pyNext it) (fun r s1 => match r with
   | none => R (.ok .next) s1
   | some v => wpAny (model PR w) A (letOwnedTupleGo target it v) (fun _ s2 => wpAny (model PR w) A (assign target cenv v) (fun _ s3 => wpAny (model PR w) A (compTests ifs cenv) (fun b s4 =>
     if b then wpAny (model PR w) A (compEmit elt gens scope pos k acc cenv) (fun _ s5 => ∃ m,m < n ∧ I m s5) NoE s4 else ∃ m,m < n ∧ I m s4) NoE s3) NoE s2) NoE s1) NoE s)
  (n : Nat) (h : I n s) : codeAny (model PR w) A (.compLoop (.ListComp elt gens scope pos) k it acc cenv) R s := by
 revert w A s elt target iter ifs gens scope pos it acc k cenv R I n;intros w A s elt target iter ifs gens scope pos it acc k cenv R hg I turn n h
 refine codeAny_loop' rfl I (fun n s hI => ?_) n h
 show wpAny _ _ ((compTurn (.ListComp elt gens scope pos) k it acc cenv).onRaise (fun x => do noteFrame x cenv;theTreesLotGoes x)) _ _ s
 refine wpAny_noted ?_
 unfold compTurn
 dsimp only
 rw [hg]
 dsimp only
 simp only [bne_self_eq_false,Bool.false_eq_true,if_false]
 refine wpAny_bind (wpAny_standAt (wpAny_bind (wpAny_mono (turn n s hI) (fun r s₁ h₁ => ?_) fun _ _ h' => h'.elim)))
 cases r with
 | none => exact wpAny_pure h₁
 | some v =>
  refine wpAny_bind (wpAny_mono h₁ (fun _ s₂ h₂ => ?_) fun _ _ h' => h'.elim)
  refine wpAny_bind (wpAny_mono h₂ (fun _ s₃ h₃ => ?_) fun _ _ h' => h'.elim)
  refine wpAny_bind (wpAny_mono h₃ (fun b s₄ h₄ => ?_) fun _ _ h' => h'.elim)
  cases b with
  | false => exact wpAny_pure (.inl ⟨rfl,h₄⟩)
  | true =>
   simp only [if_true] at h₄ ⊢
   unfold compEmit at h₄
   cases hg' : gens[k + 1]? with
   | none =>
    rw [hg'] at h₄
    dsimp only at h₄ ⊢
    refine wpAny_bind (wpAny_mono h₄ (fun _ s₅ h₅ => wpAny_pure (.inl ⟨rfl,h₅⟩)) fun _ _ h' => h'.elim)
   | some g' =>
    rw [hg'] at h₄
    dsimp only at h₄ ⊢
    have key : ∀ {t : Sem Unit} {t' : Sem PySem.Fin},t' = (t >>= fun _ => again (.compLoop (.ListComp elt gens scope pos) k it acc cenv)) -> wpAny (model PR w) A t (fun _ s5 => ∃ m,m < n ∧ I m s5) NoE s₄ -> wpAny (model PR w) A t' (fun fin s' => match fin with
     | .done f => R (.ok f) s'
     | .again c' => (c' = .compLoop (.ListComp elt gens scope pos) k it acc cenv ∧ ∃ m,m < n ∧ I m s') ∨ (c'.quiet = true ∧ codeAny (model PR w) A c' R s')) (notedBy (model PR w) A cenv fun e s' => R (Except.error e) s') s₄ := fun e h => by
     rw [e]
     exact wpAny_bind (wpAny_mono h (fun _ s₅ h₅ => wpAny_pure (.inl ⟨rfl,h₅⟩)) fun _ _ h' => h'.elim)
    refine key ?_ h₄
    cases hb : (g'.is_async != 0) <;> simp [hb,bind_assoc]
end
theorem store_local {c : Cx} {I : Asr c.W} {ρ : List (Str × D)} {n : Nat} {x : Str} {d : D} (ok : c.Ok n) (hk : c.env.kindOf x = some .local) {s : Shared} (S : Sta c I ρ s) {v : Value} (r : Rel c.W s.heap d v) :
  wpAny c.M c.A (storeName c.env x v) (fun _ s' => Ext [c.env.locals] s s' ∧ Sta c I ((x,d) :: ρ) s') NoE s := by
 revert c I ρ n x d s v;intros c I ρ n x d ok hk s S v r
 have hp := S.loc.noSeq
 obtain @⟨⟨⟨m,F,hv⟩,cl,lo⟩,win,asr⟩ := S
 refine wpAny_storeName_local hk F.ns (fun h' hn hs => ?_) (by rw [ok.env.kind];rfl)
 have kp : ∀ b o,b ∉ [c.env.locals] -> s.heap.get? b = some o -> h'.get? b = some o := fun b o nb e => hs.extBut b o (fun q => nb (q ▸ List.mem_singleton.mpr rfl)) e
 have e1 : Ext [c.env.locals] s { s with heap := h',toks := s.toks + 1 } := ⟨kp,rfl,fun x => x⟩
 have hV : ∀ b ∈ [c.env.locals],b ∉ c.W ∧ NoSeq s.heap b := fun b q => by rw [List.mem_singleton.mp q];exact hp _ (List.mem_cons_self ..)
 refine ⟨e1,⟨⟨_,F.set hn hs,fun y dy ey => ?_⟩,fun n a hm => ⟨let ⟨v,z⟩ := (cl n a hm).1;⟨v,isCell_move z fun o => kp a o (fun q => ok.env.off n a hm (List.mem_singleton.mp q))⟩,(cl n a hm).2⟩,lo⟩,fun b hb => ?_,I.st _ _ _ kp hV asr⟩
 ·have rm : ∀ {d : D} {v : Value},Rel c.W s.heap d v -> Rel c.W h' d v := fun z => z.move kp fun b q => .inr (hV b q).2
  by_cases q : y = x
  ·subst q
   rw [lk0] at ey;cases ey
   exact .inl ⟨hk,v,by simp,rm r⟩
  ·rw [List.lookup_cons,show (y == x) = false from by simpa using q] at ey
   rcases hv y dy ey with ⟨h1,u,h2,h3⟩ | ⟨h1,a,u,h2,h3,h4⟩
   ·exact .inl ⟨h1,u,by simp [q,h2],rm h3⟩
   ·exact .inr ⟨h1,a,u,h2,isCell_move h3 fun o => kp a o (fun q => ok.env.off _ a (mem_of_lookup h2) (List.mem_singleton.mp q)),rm h4⟩
 ·obtain @⟨o,eo⟩ := win b hb
  exact ⟨o,kp b o (fun q => (hV b q).1 hb) eo⟩
noncomputable def JAl (c : Cx) (t : Expr) (d : D) (ρ ρ' : List (Str × D)) : Prop :=
 ∀ (I : Asr c.W) s v,Sta c I ρ s -> Rel c.W s.heap d v -> wpAny c.M c.A (assign t c.env v) (fun _ s' => Ext [c.env.locals] s s' ∧ Sta c I ρ' s') NoE s
section
variable {c : Cx} {I : Asr c.W} {ρ ρ' : List (Str × D)} {n : Nat}
theorem JAl.name {x : Str} {px : Pos} {d : D} (ok : c.Ok n) (hk : c.env.kindOf x = some .local) : JAl c (.Name x px) d ρ ((x,d) :: ρ) := fun I s v S r =>
 wpAny_assign_Name (store_local ok hk S r)
theorem JAl.pair {x y : Str} {px py pos : Pos} {k : Nat} {d e : D} (ok : c.Ok n) (hx : c.env.kindOf x = some .local) (hy : c.env.kindOf y = some .local) :
  JAl c (.Tuple [.Name x px,.Name y py] k pos) (.tup [d,e]) ρ ((y,e) :: (x,d) :: ρ) := by
 revert c ρ n x y px py pos k d e;intros c ρ n x y px py pos k d e ok hx hy
 intros I s v S r
 obtain @⟨a,vs,rfl,ha,ht,hr⟩ := rtup r
 revert ht;refine rels2 hr ?_;clear hr;intros u1 u2;intro q1 q2 ht
 refine assign_Tuple_tuple ok.room.hh ht rfl rfl ?_
 intros h' he
 have e1 : Ext [] s { s with heap := h' } := ⟨fun b o _ eb => he b o (Nat.ne_of_lt (Heap.lt_size eb)) eb,rfl,fun x => x⟩
 show wpAny _ _ (assignInOrder [assign (.Name x px) c.env,assign (.Name y py) c.env] [u1,u2]) _ _ _
 refine wpAny_bind (wpAny_holding (wpAny_assign_Name (fin (store_local ok hx (S.ext e1) (q1.ext e1)) ?_)))
 intros v9 s2 z
 have q2' : Rel c.W s2.heap e u2 := by
  have hp := (S.ext e1).loc.noSeq
  exact (q2.ext e1).move z.1.keep fun b hb => .inr (by rw [List.mem_singleton.mp hb];exact (hp _ (List.mem_cons_self ..)).2)
 refine wpAny_bind (wpAny_holding (wpAny_assign_Name (fin (store_local ok hy z.2 q2') ?_)))
 intros v9 s3 z'
 exact wpAny_pure ⟨(e1.nil.trans z.1).trans z'.1,z'.2⟩
noncomputable def JTs (c : Cx) (I : Asr c.W) (ρ : List (Str × D)) (ifs : List Expr) (b : Bool) : Prop := ∀ s,Sta c I ρ s -> wpAny c.M c.A (compTests ifs c.env) (fun v s' => Ext [] s s' ∧ v = b) NoE s
theorem JTs.nil : JTs c I ρ [] true := fun s S => wpAny_pure ⟨Ext.refl _ _,rfl⟩
theorem JTs.one {t : Expr} {b : Bool} (h : JT c I ρ t b) : JTs c I ρ [t] b := fun s S => by
 unfold compTests
 rw [List.forIn_cons]
 simp only [if_true]
 refine wpAny_bind (wpAny_bind (fin (h s S) fun v s1 q => wpAny_pure ?_))
 exact wpAny_pure q
noncomputable def CL (c : Cx) (d0 : Addr) (hd0 : d0 ∈ c.W) (elt : Expr) (gens : List Comprehension) (scope : Scope) (pos : Pos) (k : Nat) (ρ : List (Str × D)) (ds outs : List D) : Prop :=
 ∀ it fp T pre s,IterAt c.w c.A c.W it ds fp T -> T 0 s.heap -> (∀ b ∈ fp,b ∉ c.V ∧ b ∉ c.W ∧ c.hb.get? b = none ∧ b ∉ FV c.env) -> pre.length + outs.length ≤ 100000 -> Sta c (Asr.list d0 hd0 pre) ρ s ->
  codeAny c.M c.A (.compLoop (.ListComp elt gens scope pos) k it (.ref d0) c.env) (fun r s' => r = .ok .next ∧ Ext (d0 :: c.env.locals :: fp) s s' ∧ Sta c (Asr.list d0 hd0 (pre ++ outs)) ρ s') s
inductive Emit (c : Cx) (d0 : Addr) (hd0 : d0 ∈ c.W) (elt : Expr) (gens : List Comprehension) (scope : Scope) (pos : Pos) (k : Nat) (ρ : List (Str × D)) : List D -> Prop
 | elt {d : D} (h : gens[k + 1]? = none) (e : ∀ pre,JE c (Asr.list d0 hd0 pre) ρ elt d) : Emit c d0 hd0 elt gens scope pos k ρ [d]
 | more {target iter : Expr} {ifs : List Expr} {ds outs : List D} (h : gens[k + 1]? = some ⟨target,iter,ifs,0⟩) (e : ∀ pre,JI c (Asr.list d0 hd0 pre) ρ iter ds) (hs : ∀ x,foldedSetIterable iter c.env x = pure x)
   (hcl : CL c d0 hd0 elt gens scope pos (k + 1) ρ ds outs) : Emit c d0 hd0 elt gens scope pos k ρ outs
theorem compStart_go {w : World} {A : Around} {elt target iter : Expr} {ifs : List Expr} {gens : List Comprehension} {scope : Scope} {pos : Pos} {k : Nat} {it acc : Value} {env : Env} {R : Result -> Shared -> Prop} {s : Shared} (hg : gens[k]? = some ⟨target,iter,ifs,0⟩)
  (h0 : codeAny (model PR w) A (.compLoop (.ListComp elt gens scope pos) k it acc env) R s)
  (h1 : wpAny (model PR w) A (pyIter it) (fun it' s' => codeAny (model PR w) A (.compLoop (.ListComp elt gens scope pos) k it' acc env) R s') NoE s) :
  codeAny (model PR w) A (.compStart (.ListComp elt gens scope pos) k it acc env) R s := by
 refine codeAny_of_tree ?_
 show wpAny _ _ ((compStart (.ListComp elt gens scope pos) k it acc env).onRaise (fun x => do noteFrame x env;standAt theWindowsPlace)) _ _ s
 refine wpAny_notedAt ?_
 unfold compStart
 have hc : clausesOf (.ListComp elt gens scope pos) = gens := rfl
 rw [hc,hg]
 simp only [Option.elim_some,bne_self_eq_false,Bool.false_eq_true,if_false]
 refine wpAny_bind (wpAny_askSetting (wpAny_ite ?_))
 split
 ·first
   | exact wpAny_bind (wpAny_pure (wpAny_pure (And.intro rfl h0)))
   | exact wpAny_pure (And.intro rfl h0)
 ·first
   | exact wpAny_bind (wpAny_rule (wpAny_bind (wpAny_standAt (wpAny_bind (wpAny_mono h1 (fun it' s' h' => wpAny_pure (And.intro rfl h')) fun _ _ x => x.elim)))))
   | (refine wpAny_bind (wpAny_rule ?_);show wpAny _ _ (standAt iter.pos >>= _) _ _ s;exact wpAny_bind (wpAny_standAt (wpAny_bind (wpAny_mono h1 (fun it' s' h' => wpAny_pure (And.intro rfl h')) fun _ _ x => x.elim))))
end
end
section
section
variable {c : Cx} {ρ ρ' : List (Str × D)} {n : Nat}
theorem Ext.fresh {V fp : List Addr} {a b d : Shared} (x : Ext V a b) (hf : ∀ p ∈ fp,a.heap.get? p = none) (y : Ext (V ++ fp) b d) : Ext V a d :=
 ⟨fun p o np e => by
  have := x.keep p o np e
  exact y.keep p o (fun q => by
   rcases List.mem_append.mp q with q | q
   ·exact np q
   ·rw [hf p q] at e;cases e) this,y.os.trans x.os,fun g => y.gens (x.gens g)⟩
theorem acc_append {d0 : Addr} {hd0 : d0 ∈ c.W} {pre : List D} {d : D} {v : Value} {s : Shared} {ρ : List (Str × D)} (ok : c.Ok n) (hU : d0 ∈ c.U) (hz : pre.length ≤ 100000) (S : Sta c (Asr.list d0 hd0 pre) ρ s) (r1 : Rel c.W s.heap d v) :
  wpAny c.M c.A (call (.builtin "list.append") [.ref d0,v]) (fun _ s' => Ext [d0] s s' ∧ Sta c (Asr.list d0 hd0 (pre ++ [d])) ρ s') NoE s := by
 obtain ⟨us,k,eo,rr⟩ := S.asr
 have hlen := rr.length
 refine append_at eo (fun h' sb eo' => ?_) (by rw [sizeLine_eq];simp;omega)
 have e3 : Ext [d0] s { s with heap := h' } := ⟨fun b o nb eb => sb.extBut b o (fun q => nb (q ▸ List.mem_singleton.mpr rfl)) eb,rfl,fun x => x⟩
 have hin : ∀ b ∈ [d0],b ∈ c.U := fun b q => by rw [List.mem_singleton.mp q];exact hU
 refine ⟨e3,S.upd ok e3 hin (fun b q => by rw [List.mem_singleton.mp q];exact ⟨_,eo'⟩) ⟨us ++ [v],k + 1,by rw [eo'];simp,?_⟩⟩
 refine Rels.append (rr.move e3.keep fun b q => .inl (ok.sub b (hin b q))) ?_
 unfold Rels
 exact ⟨v,[],rfl,r1.move e3.keep fun b q => .inl (ok.sub b (hin b q)),by unfold Rels;rfl⟩
theorem flat_succ {out : Nat -> List D} {i : Nat} : (List.range (i + 1)).flatMap out = (List.range i).flatMap out ++ out i := by
 rw [List.range_succ,List.flatMap_append];simp
theorem flat_le {out : Nat -> List D} {i j : Nat} (h : i ≤ j) : ((List.range i).flatMap out).length ≤ ((List.range j).flatMap out).length := by
 induction h with
 | refl => exact Nat.le_refl _
 | step _ ih => rw [flat_succ,List.length_append];omega
theorem CL.mk {d0 : Addr} {hd0 : d0 ∈ c.W} {elt target iter : Expr} {ifs : List Expr} {gens : List Comprehension} {scope : Scope} {pos : Pos} {k : Nat} {ds : List D} (ok : c.Ok n) (hU : d0 ∈ c.U) (hg : gens[k]? = some ⟨target,iter,ifs,0⟩) (out : Nat -> List D)
  (turn : ∀ i d,ds[i]? = some d -> ∃ ρ' b,JAl c target d ρ ρ' ∧ Sub ρ ρ' ∧ (∀ pre,JTs c (Asr.list d0 hd0 pre) ρ' ifs b) ∧ (b = false -> out i = []) ∧ (b = true -> Emit c d0 hd0 elt gens scope pos k ρ' (out i))) :
  CL c d0 hd0 elt gens scope pos k ρ ds ((List.range ds.length).flatMap out) := by
 intro it fp T pre s W t0 off hz S
 have hdfp : d0 ∉ fp := fun q => (off d0 q).2.1 hd0
 have hlfp : c.env.locals ∉ fp := fun q => (off _ q).2.2.2 (List.mem_cons_self ..)
 refine comp_loop hg (fun m s' => ∃ i,m = ds.length + 1 - i ∧ i ≤ ds.length ∧ Ext (d0 :: c.env.locals :: fp) s s' ∧ Sta c (Asr.list d0 hd0 (pre ++ (List.range i).flatMap out)) ρ s' ∧ T i s'.heap) ?_ (ds.length + 1) ⟨0,rfl,Nat.zero_le _,Ext.refl _ _,by simpa using S,t0⟩
 rintro m s1 ⟨i,rfl,hi,e1,S1,t1⟩
 have mv : ∀ {i : Nat} {ρ : List (Str × D)} {I : Asr c.W} {s s' : Shared},Sta c I ρ s -> T i s.heap -> Ext fp s s' -> Sta c I ρ s' := fun {i ρ I s s'} x t e =>
  x.move e fun b q => ⟨⟨(off b q).2.1,W.quiet _ _ t b q⟩,(off b q).2.2⟩
 have inf : ∀ p ∈ fp,p ∈ d0 :: c.env.locals :: fp := fun p hp => List.mem_cons_of_mem _ (List.mem_cons_of_mem _ hp)
 by_cases hlt : i < ds.length
 ·obtain ⟨ρ',b,ja,hsub,jt,hf,ht⟩ := turn i ds[i] (List.getElem?_eq_getElem hlt)
  have hzi : (pre ++ (List.range (i + 1)).flatMap out).length ≤ 100000 := by
   have := flat_le (out := out) (show i + 1 ≤ ds.length from hlt)
   rw [List.length_append];omega
  have hzi' := hzi
  rw [flat_succ,← List.append_assoc,List.length_append] at hzi'
  refine fin (W.next i s1 ds[i] t1 S1.win (List.getElem?_eq_getElem hlt)) fun r s2 h => ?_
  obtain ⟨v,rfl,e2,t2,r2⟩ := h
  have S2 := mv S1 t1 e2
  refine fin (W.go target i s2 ds[i] v t2 (List.getElem?_eq_getElem hlt) r2) fun _ s3 h => ?_
  obtain ⟨e3,t3⟩ := h
  have S3 := mv S2 t2 e3
  have r3 : Rel c.W s3.heap ds[i] v := r2.move e3.keep fun b q => .inr (W.quiet _ _ t2 b q)
  refine fin (ja _ s3 v S3 r3) fun _ s4 h => ?_
  obtain ⟨e4,S4⟩ := h
  have t4 : T (i + 1) s4.heap := W.frame [c.env.locals] _ _ _ (fun b q => by rw [List.mem_singleton.mp q];exact ⟨hlfp,.inr (S3.loc.noSeq _ (List.mem_cons_self ..)).2⟩) e4.keep t3
  refine fin (jt _ s4 S4) fun b' s5 h => ?_
  obtain ⟨e5,rfl⟩ := h
  have S5 := S4.ext e5
  have t5 : T (i + 1) s5.heap := W.frame [] _ _ _ (fun b q => nomatch q) e5.keep t4
  have E5 : Ext (d0 :: c.env.locals :: fp) s s5 := (((e1.trans (e2.mono inf)).trans (e3.mono inf)).trans (e4.mono fun p hp => by rw [List.mem_singleton.mp hp];exact List.mem_cons_of_mem _ (List.mem_cons_self ..))).trans e5.nil
  have nx : ∀ s6,Ext (d0 :: c.env.locals :: fp) s5 s6 -> Sta c (Asr.list d0 hd0 (pre ++ (List.range (i + 1)).flatMap out)) ρ' s6 -> T (i + 1) s6.heap -> ∃ m,m < ds.length + 1 - i ∧ ∃ i,m = ds.length + 1 - i ∧ i ≤ ds.length ∧ Ext (d0 :: c.env.locals :: fp) s s6 ∧ Sta c (Asr.list d0 hd0 (pre ++ (List.range i).flatMap out)) ρ s6 ∧ T i s6.heap := fun s6 e6 S6 t6 =>
   ⟨ds.length + 1 - (i + 1),by omega,i + 1,rfl,hlt,E5.trans e6,S6.weak hsub,t6⟩
  cases b' with
  | false =>
   simp only [Bool.false_eq_true,if_false]
   refine nx s5 (Ext.refl _ _) ?_ t5
   rw [flat_succ,hf rfl,List.append_nil]
   exact S5
  | true =>
   simp only [if_true]
   have em := ht rfl
   unfold compEmit
   have hassoc : pre ++ (List.range (i + 1)).flatMap out = (pre ++ (List.range i).flatMap out) ++ out i := by rw [flat_succ,List.append_assoc]
   rw [hassoc] at nx
   generalize out i = oi at em hzi' nx
   cases em with
   | @elt d h e =>
    rw [h]
    dsimp only
    refine wpAny_bind (fin (e _ s5 S5) fun v s6 q6 => ?_)
    have S6 := S5.ext q6.1
    refine wpAny_bind (fin (acc_append ok hU (by simp at hzi' ⊢;omega) S6 q6.2) fun _ s7 q7 => wpAny_pure ?_)
    refine nx s7 (q6.1.nil.trans (q7.1.mono fun p hp => by rw [List.mem_singleton.mp hp];exact List.mem_cons_self ..)) q7.2 ?_
    refine W.frame [d0] _ _ _ (fun b q => by rw [List.mem_singleton.mp q];exact ⟨hdfp,.inl hd0⟩) q7.1.keep (W.frame [] _ _ _ (fun b q => nomatch q) q6.1.keep t5)
   | @more target' iter' ifs' ds' outs h e hs hcl =>
    rw [h]
    dsimp only
    refine wpAny_bind (fin (e _ s5 S5) fun x s6 q6 => wpAny_bind (wpAny_standAt ?_))
    simp only [bne_self_eq_false,Bool.false_eq_true,if_false]
    refine wpAny_bind (wpAny_of_eq (hs x) (wpAny_bind (wpAny_holding (fin q6 fun it' s7 q7 => ?_))))
    obtain ⟨fp',T',W',t0',e7,hf',_⟩ := q7
    have S7 := S5.ext e7
    have off' := fresh_off ok S5 hf'
    have run : codeAny c.M c.A (.compLoop (.ListComp elt gens scope pos) (k + 1) it' (.ref d0) c.env) (fun r s' => r = .ok .next ∧ Ext (d0 :: c.env.locals :: fp') s7 s' ∧ Sta c (Asr.list d0 hd0 (pre ++ (List.range i).flatMap out ++ oi)) ρ' s') s7 :=
     hcl it' fp' T' _ s7 W' t0' off' hzi' S7
    have fin2 : ∀ (r : Result) s',(r = .ok .next ∧ Ext (d0 :: c.env.locals :: fp') s7 s' ∧ Sta c (Asr.list d0 hd0 (pre ++ (List.range i).flatMap out ++ oi)) ρ' s') -> (match r with
      | .ok f => wpAny c.M c.A (pure ()) (fun _ s5 => ∃ m,m < ds.length + 1 - i ∧ ∃ i,m = ds.length + 1 - i ∧ i ≤ ds.length ∧ Ext (d0 :: c.env.locals :: fp) s s5 ∧ Sta c (Asr.list d0 hd0 (pre ++ (List.range i).flatMap out)) ρ s5 ∧ T i s5.heap) NoE s'
      | .error e => cameBackBy c.M c.A c.env NoE e s') := by
     rintro r s8 ⟨rfl,e8,S8⟩
     have e58 : Ext [d0,c.env.locals] s5 s8 := Ext.fresh (V := [d0,c.env.locals]) e7.nil hf' e8
     ·refine wpAny_pure (nx s8 (e58.mono fun p hp => ?_) S8 ?_)
      ·rcases List.mem_cons.mp hp with rfl | hp
       ·exact List.mem_cons_self ..
       ·rw [List.mem_singleton.mp hp];exact List.mem_cons_of_mem _ (List.mem_cons_self ..)
      ·refine W.frame [d0,c.env.locals] _ _ _ (fun b q => ?_) e58.keep t5
       rcases List.mem_cons.mp q with rfl | q
       ·exact ⟨hdfp,.inl hd0⟩
       ·rw [List.mem_singleton.mp q];exact ⟨hlfp,.inr (S5.loc.noSeq _ (List.mem_cons_self ..)).2⟩
    refine wpAny_bind (wpAny_runOwn (h := none) (codeAny_mono (compStart_go h run (wpAny_mono (W'.self 0 s7 t0') (fun v s' q => ?_) fun _ _ z => z.elim)) fun r s' q => ?_))
    ·obtain ⟨rfl,rfl⟩ := q;exact run
    ·have := fin2 r s' q
     cases r with
     | ok f => exact this
     | error e => exact this
 ·have hin : i = ds.length := by omega
  subst hin
  refine fin (W.done s1 t1) fun r s2 h => ?_
  obtain ⟨rfl,e2⟩ := h
  exact ⟨rfl,e1.trans (e2.mono inf),mv S1 t1 e2⟩
end
end
section
noncomputable def Cx.comp (c : Cx) (d0 C : Addr) (scope : Scope) (cl : List (Str × Addr)) : Cx := { c.own d0 with env := compEnvC scope cl C c.env }
structure CompOk (c : Cx) (scope : Scope) (cl : List (Str × Addr)) : Prop where
 clos : closureFor scope c.env = pure cl
 kind : scope.kind = .function
 names : ∀ x ∈ scope.names,x.2 = .local -> scope.names.lookup x.1 = some .local
 ncell : ∀ x ∈ scope.names,x.2 ≠ .cell
 sub : ∀ p ∈ cl,p ∈ c.env.cells
 nodup : (cl.map (·.1)).Nodup
noncomputable def CapOk (c : Cx) (scope : Scope) (cl : List (Str × Addr)) (ρ2 ρ : List (Str × D)) : Prop :=
 ∀ x d,ρ2.lookup x = some d -> ρ.lookup x = some d ∧ cl.lookup x = c.env.cells.lookup x ∧ c.env.kindOf x = some .cell ∧ scope.names.lookup x = some .free
theorem kdE {c : Cx} {E : Env} {x : Str} {k : NameKind} (h : c.env = E) (e : E.kindOf x = some k) : c.env.kindOf x = some k := by rw [h];exact e
theorem relabel_free {env : Env} {x : Str} (hk : env.scope.kind = .function) (hc : env.kindOf x = some .cell) : ∀ {names : List (Str × NameKind)},names.lookup x = some .free ->
  (names.map fun (n,k) => if (k == NameKind.free && env.scope.kind == .function && env.kindOf n == some .cell) then (n,NameKind.cell) else (n,k)).lookup x = some .cell
 | [],h => by simp at h
 | (n,k) :: r,h => by
  rw [List.map_cons]
  cases hx : x == n with
  | true =>
   have hxn : x = n := by simpa using hx
   subst hxn
   rw [List.lookup_cons,hx] at h
   cases h
   simp [hk,hc,List.lookup_cons]
  | false =>
   rw [List.lookup_cons,hx] at h
   have ih := relabel_free hk hc h
   dsimp only
   split <;> (rw [List.lookup_cons,hx];exact ih)
theorem relabel_cell {env : Env} {x : Str} : ∀ {names : List (Str × NameKind)},(∀ y ∈ names,y.2 ≠ .cell) ->
  (names.map fun (n,k) => if (k == NameKind.free && env.scope.kind == .function && env.kindOf n == some .cell) then (n,NameKind.cell) else (n,k)).lookup x = some .cell -> env.kindOf x = some .cell
 | [],_,h => by simp at h
 | (n,k) :: r,hn,h => by
  rw [List.map_cons] at h
  have ih := @relabel_cell env x r fun y hy => hn y (List.mem_cons_of_mem _ hy)
  cases hx : x == n with
  | true =>
   have hxn : x = n := by simpa using hx
   subst hxn
   dsimp only at h
   split at h
   ·rename_i hc
    simp at hc
    exact hc.2
   ·rw [List.lookup_cons,hx] at h
    cases h
    exact absurd rfl (hn (x,.cell) (List.mem_cons_self ..))
  | false =>
   dsimp only at h
   split at h <;> (rw [List.lookup_cons,hx] at h;exact ih h)
section
variable {c : Cx} {I : Asr c.W} {ρ ρ2 : List (Str × D)} {n : Nat}
theorem pairwise_cl {cs cl : List (Str × Addr)} (ap : cs.Pairwise fun x y => x.2 ≠ y.2) (sub : ∀ p ∈ cl,p ∈ cs) (nd : (cl.map (·.1)).Nodup) : cl.Pairwise fun x y => x.2 ≠ y.2 := by
 rw [List.Nodup,List.pairwise_map] at nd
 refine (List.Pairwise.and_mem.mp nd).imp fun {x y} h e => ?_
 obtain ⟨h1,h2,h3⟩ := h
 obtain ⟨n1,a1⟩ := x
 obtain ⟨n2,a2⟩ := y
 dsimp only at e
 subst e
 exact h3 (name_of_addr ap (sub _ h1) (sub _ h2))
theorem comp_run {elt target iter : Expr} {ifs : List Expr} {rest : List Comprehension} {scope : Scope} {pos : Pos} {cl : List (Str × Addr)} {ds outs : List D} (ok : c.Ok n) (it : JI c I ρ iter ds) (co : CompOk c scope cl) (cap : CapOk c scope cl ρ2 ρ) (hz : outs.length ≤ 100000)
  (body : ∀ d0 C,(c.comp d0 C scope cl).Ok n -> CL (c.comp d0 C scope cl) d0 (List.mem_cons_self ..) elt (⟨target,iter,ifs,0⟩ :: rest) scope pos 0 ρ2 ds outs) {s : Shared} (S : Sta c I ρ s) :
  wpAny c.M c.A (eval iter c.env) (fun x s1 => wpAny c.M c.A (pyIter x) (fun itv s2 => wpAny c.M c.A (newList []) (fun acc s3 =>
   wpAny c.M c.A (newFunctionEnv scope c.env.globals cl [] c.env.qual none .none (some c.env)) (fun cenv s4 =>
    codeAny c.M c.A (.compStart (.ListComp elt (⟨target,iter,ifs,0⟩ :: rest) scope pos) 0 itv acc { cenv with scope := relabel scope c.env }) (fun r s' => r = .ok .next ∧ ∃ d0,acc = .ref d0 ∧ s.heap.get? d0 = none ∧ s.heap.get? cenv.locals = none ∧ d0 ≠ cenv.locals ∧ Ext [] s s' ∧ (∃ m,s'.heap.Ns cenv.locals m) ∧ Rel c.W s'.heap (.lst outs) (.ref d0)) s4) NoE s3) NoE s2) NoE s1) NoE s := by
 revert c I ρ ρ2 n elt target iter ifs rest scope pos cl ds outs s;intros c I ρ ρ2 n elt target iter ifs rest scope pos cl ds outs ok it co cap hz body s S
 refine fin (it s S) fun x s1 q => fin q fun itv s2 q => ?_
 obtain ⟨fp,T,W,t0,e2,hf,wide⟩ := q
 have S2 := S.ext e2
 have hn2 : ∀ b,s2.heap.objs.size ≤ b -> s2.heap.get? b = none := fun b hb => by
  cases e : s2.heap.get? b with
  | none => rfl
  | some o => exact absurd (Heap.lt_size e) (Nat.not_lt.mpr hb)
 have hns : ∀ b,s2.heap.get? b = none -> s.heap.get? b = none := fun b hb => by
  cases e : s.heap.get? b with
  | none => rfl
  | some o => rw [e2.all b o e] at hb;cases hb
 refine wpAny_newList ?_ (by rw [sizeLine_eq];simp)
 generalize hd : s2.heap.objs.size = d0
 have hd0 : s2.heap.get? d0 = none := hn2 d0 (by rw [hd];exact Nat.le_refl _)
 obtain ⟨T',W',t0'⟩ := wide d0 hd0
 refine wpAny_newFunctionEnv co.ncell (by intros y hy;simp at hy) (fun h' hn' hs' => ?_) co.kind
 simp only [Heap.size_push,hd] at hn' hs' ⊢
 have hC : s2.heap.get? (d0 + 1) = none := hn2 _ (by rw [hd];exact Nat.le_succ _)
 have e4 : Ext [] s2 { s2 with heap := h',toks := s2.toks + ([] : List (Str × Value)).length } := ⟨fun b o _ e => hs'.extBut b o (fun q => by rw [q,hC] at e;cases e) (Heap.get?_push_of_some _ (Heap.get?_push_of_some _ e)),rfl,fun x => x⟩
 have hlist : h'.get? d0 = some { cls := .type "list",data := .seq #[] } := hs'.extBut _ _ (Nat.ne_of_lt (Nat.lt_succ_self _)) (Heap.get?_push_of_some _ (by rw [← hd];exact Heap.get?_push_size _ rfl))
 have hbn : ∀ b,s2.heap.get? b = none -> c.hb.get? b = none := fun b hb => by
  cases q : c.hb.get? b with
  | none => rfl
  | some o => rw [S2.stays.1 b o q] at hb;cases hb
 have hk2 : (compEnvC scope cl (d0 + 1) c.env).scope.kind = .function := co.kind
 have ok2 : (c.comp d0 (d0 + 1) scope cl).Ok n := by
  refine ⟨ok.gr,⟨hk2,pairwise_cl ok.env.apart co.sub co.nodup,fun x a hm q => ?_,fun x a hm q => ok.env.own x a (co.sub _ hm) (relabel_cell co.ncell q),ok.env.gl,ok.env.bi⟩,ok.room,fun b q => ?_,fun b q => ?_⟩
  ·obtain ⟨⟨v,o,eo,_⟩,_⟩ := S2.loc.cl x a (co.sub _ hm)
   have q' : a = d0 + 1 := q
   rw [q',hC] at eo;cases eo
  ·rcases List.mem_cons.mp q with rfl | q
   ·exact List.mem_cons_self ..
   ·exact List.mem_cons_of_mem _ (ok.sub b q)
  ·rcases List.mem_cons.mp q with rfl | q
   ·exact hbn _ hd0
   ·exact ok.wh b q
 have S4 : Sta (c.comp d0 (d0 + 1) scope cl) (Asr.list d0 (List.mem_cons_self ..) []) ρ2 { s2 with heap := h',toks := s2.toks + ([] : List (Str × Value)).length } := by
  refine ⟨⟨⟨fun _ => none,⟨hn',fun b o e => e4.all b o (S2.stays.1 b o e),?_⟩,fun x d e => ?_⟩,fun x a hm => ?_,fun q => ?_⟩,fun b hb => ?_,⟨[],0,hlist,by unfold Rels;rfl⟩⟩
  ·show c.hb.objs.size ≤ d0 + 1
   rw [← hd]
   exact Nat.le_succ_of_le S2.stays.2
  ·obtain ⟨e1,h1,h2,h3⟩ := cap x d e
   obtain ⟨m,F,hv⟩ := S2.loc.fr
   rcases hv x d e1 with ⟨h4,_⟩ | ⟨_,a,v,h5,h6,h7⟩
   ·rw [h2] at h4;cases h4
   ·exact .inr ⟨.inl (relabel_free ok.env.kind h2 h3),a,v,h1.trans h5,isCell_move h6 (e4.all a),(h7.widen hd0).ext e4⟩
  ·obtain ⟨⟨v,y⟩,z⟩ := S2.loc.cl x a (co.sub _ hm)
   refine ⟨⟨v,isCell_move y (e4.all a)⟩,fun q => ?_⟩
   rcases List.mem_cons.mp q with rfl | q
   ·obtain ⟨o,eo,_⟩ := y;rw [hd0] at eo;cases eo
   ·exact z q
  ·rcases List.mem_cons.mp q with q | q
   ·exact absurd q (Nat.succ_ne_self d0)
   ·obtain ⟨o,eo⟩ := S2.win _ q
    have eo' : s2.heap.get? (d0 + 1) = some o := eo
    rw [hC] at eo';cases eo'
  ·rcases List.mem_cons.mp hb with rfl | hb
   ·exact ⟨_,hlist⟩
   ·obtain ⟨o,e⟩ := S2.win b hb;exact ⟨o,e4.all b o e⟩
 have t4 : T' 0 h' := W'.frame [] _ _ _ (fun b q => nomatch q) e4.keep t0'
 have off : ∀ b ∈ fp,b ∉ (c.comp d0 (d0 + 1) scope cl).V ∧ b ∉ (c.comp d0 (d0 + 1) scope cl).W ∧ c.hb.get? b = none ∧ b ∉ FV (c.comp d0 (d0 + 1) scope cl).env := fun b hb => by
  obtain ⟨o,eo⟩ := W.live 0 s2.heap t0 b hb
  have h1 : b ≠ d0 := fun q => by rw [q,hd0] at eo;cases eo
  have h2 : b ≠ d0 + 1 := fun q => by rw [q,hC] at eo;cases eo
  have h3 := fresh_off ok S hf b hb
  have h4 : b ∉ FV (c.comp d0 (d0 + 1) scope cl).env := fun q => by
   rcases List.mem_cons.mp q with q | q
   ·exact h2 q
   ·obtain ⟨⟨x,a⟩,hm,rfl⟩ := List.mem_map.mp q
    exact h3.2.2.2 (List.mem_cons_of_mem _ (List.mem_map_of_mem (f := (·.2)) (co.sub _ hm)))
  refine ⟨fun q => ?_,fun q => ?_,h3.2.2.1,h4⟩
  ·rcases List.mem_append.mp q with q | q
   ·rcases List.mem_cons.mp q with q | q
    ·exact h1 q
    ·exact h3.1 (List.mem_append_left _ q)
   ·exact h4 q
  ·rcases List.mem_cons.mp q with q | q
   ·exact h1 q
   ·exact h3.2.1 q
 have run := body d0 (d0 + 1) ok2 itv fp T' [] { s2 with heap := h',toks := s2.toks + ([] : List (Str × Value)).length } W' t4 off (by simpa using hz) S4
 have post : ∀ (r : Result) s',(r = .ok .next ∧ Ext (d0 :: (d0 + 1) :: fp) { s2 with heap := h',toks := s2.toks + ([] : List (Str × Value)).length } s' ∧ Sta (c.comp d0 (d0 + 1) scope cl) (Asr.list d0 (List.mem_cons_self ..) ([] ++ outs)) ρ2 s') ->
   (r = .ok .next ∧ ∃ d0',Value.ref d0 = .ref d0' ∧ s.heap.get? d0' = none ∧ s.heap.get? (d0 + 1) = none ∧ d0' ≠ d0 + 1 ∧ Ext [] s s' ∧ (∃ m,s'.heap.Ns (d0 + 1) m) ∧ Rel c.W s'.heap (.lst outs) (.ref d0')) := fun r s' ⟨hr,e5,S5⟩ => by
  refine ⟨hr,d0,rfl,hns _ hd0,hns _ hC,Nat.ne_of_lt (Nat.lt_succ_self _),?_,?_,?_⟩
  ·refine ⟨fun p o _ e => e5.keep p o (fun q => ?_) (e4.all p o (e2.all p o e)),e5.os.trans (e4.os.trans e2.os),fun g => e5.gens (e4.gens (e2.gens g))⟩
   rcases List.mem_cons.mp q with rfl | q
   ·rw [hns _ hd0] at e;cases e
   ·rcases List.mem_cons.mp q with rfl | q
    ·rw [hns _ hC] at e;cases e
    ·rw [hf p q] at e;cases e
  ·obtain ⟨m,F,_⟩ := S5.loc.fr;exact ⟨m,F.ns⟩
  ·obtain ⟨us,k,eo,rr⟩ := S5.asr
   unfold Rel
   refine ⟨d0,us,rfl,fun q => ?_,⟨_,eo,rfl,_,rfl⟩,(show Rels (d0 :: c.W) s'.heap outs us from rr).narrow⟩
   obtain ⟨o,e⟩ := S2.win _ q
   rw [hd0] at e;cases e
 refine codeAny_mono (compStart_go (target := target) (iter := iter) (ifs := ifs) rfl run (wpAny_mono (W'.self 0 _ t4) (fun v s' q => ?_) fun _ _ z => z.elim)) post
 obtain ⟨rfl,rfl⟩ := q
 exact run
end
end
section
section
variable {c : Cx} {I : Asr c.W} {ρ ρ2 : List (Str × D)} {n : Nat} {s0 : Shared} {Q : Flow -> Shared -> Prop} {rest : List Stmt}
theorem comp_end {s s' : Shared} {C d0 : Addr} {h' : Heap} {outs : List D} (e : Ext [] s s') (hC : s.heap.get? C = none) (hne : d0 ≠ C) (hN : ∃ m,s'.heap.Ns C m) (sb : Heap.SameBut C s'.heap h') (r : Rel c.W s'.heap (.lst outs) (.ref d0)) :
  Ext [] s { s' with heap := h' } ∧ Rel c.W h' (.lst outs) (.ref d0) := by
 obtain ⟨m,hN⟩ := hN
 have e1 : Ext [C] s' { s' with heap := h' } := ext1 (t := s'.toks) sb.extBut
 refine ⟨⟨fun p o _ ep => e1.keep p o (fun q => ?_) (e.all p o ep),e.os,e.gens⟩,r.move e1.keep fun b q => .inr ?_⟩
 ·rw [List.mem_singleton.mp q,hC] at ep;cases ep
 ·rw [List.mem_singleton.mp q];exact noSeq_ns hN
theorem JE.comp {elt target iter : Expr} {ifs : List Expr} {gens : List Comprehension} {scope : Scope} {pos : Pos} {cl : List (Str × Addr)} {ds outs : List D} (ok : c.Ok n) (it : JI c I ρ iter ds) (co : CompOk c scope cl) (cap : CapOk c scope cl ρ2 ρ) (hz : outs.length ≤ 100000)
  (body : ∀ d0 C,(c.comp d0 C scope cl).Ok n -> CL (c.comp d0 C scope cl) d0 (List.mem_cons_self ..) elt (⟨target,iter,ifs,0⟩ :: gens) scope pos 0 ρ2 ds outs)
  (hs : ∀ x,foldedSetIterable iter c.env x = pure x := by intro _;rfl) :
  JE c I ρ (.ListComp elt (⟨target,iter,ifs,0⟩ :: gens) scope pos) (.lst outs) := fun s S => by
 rw [eval_ListComp]
 show wpAny _ _ (comprehension _ scope c.env _ (newList []) false (eval iter c.env)) _ _ s
 refine wpAny_comprehension_free (use := none) rfl hs co.clos co.kind co.names ?_
 refine fin (comp_run ok it co cap hz body S) fun x s1 q => fin q fun itv s2 q => fin q fun acc s3 q => fin q fun cenv s4 q => codeAny_mono q fun r s' q => ?_
 obtain ⟨rfl,d0,rfl,h1,h2,h3,h4,h5,h6⟩ := q
 exact ⟨h5.choose,h5.choose_spec,fun h' sb => comp_end h4 h2 h3 h5 sb h6⟩
theorem JS.compAssign {x : Str} {px spos : Pos} {elt target iter : Expr} {ifs : List Expr} {gens : List Comprehension} {scope : Scope} {pos : Pos} {cl : List (Str × Addr)} {ds outs : List D} (ok : c.Ok n) (it : JI c I ρ iter ds) (co : CompOk c scope cl) (cap : CapOk c scope cl ρ2 ρ) (hz : outs.length ≤ 100000)
  (body : ∀ d0 C,(c.comp d0 C scope cl).Ok n -> CL (c.comp d0 C scope cl) d0 (List.mem_cons_self ..) elt (⟨target,iter,ifs,0⟩ :: gens) scope pos 0 ρ2 ds outs)
  (k : JP c (Sto c I s0 ((x,.lst outs) :: ρ)) rest Q) (hk : StoOk c x)
  (hsw : swapsWith (.ListComp elt (⟨target,iter,ifs,0⟩ :: gens) scope pos) (some (.Name x px)) spos.line c.env = pure true) (hs : ∀ x,foldedSetIterable iter c.env x = pure x := by intro _;rfl) :
  JP c (Sto c I s0 ρ) (.Assign [.Name x px] (.ListComp elt (⟨target,iter,ifs,0⟩ :: gens) scope pos) spos :: rest) Q := JP.step fun s S => by
 rw [exec_Assign_Name_used _ _ _ _ hsw]
 refine wpAny_bind (wpAny_standAt (wpAny_bind ?_))
 show wpAny _ _ (do let _ ← comprehension _ scope c.env _ (newList []) false (eval iter c.env) (some (PySem.assign (.Name x px) c.env))) _ _ s
 refine wpAny_bind (wpAny_mono (wpAny_comprehension_free (Q := fun _ s' => Sto c I s0 ((x,.lst outs) :: ρ) s') (E := NoE) (use := some (PySem.assign (.Name x px) c.env)) rfl hs co.clos co.kind co.names ?_) (fun _ s' hq => wpAny_pure (wpAny_pure (k s' hq))) fun _ _ e => e.elim)
 refine fin (comp_run ok it co cap hz body S.sta) fun x s1 q => fin q fun itv s2 q => fin q fun acc s3 q => fin q fun cenv s4 q => codeAny_mono q fun r s' q => ?_
 obtain ⟨rfl,d0,rfl,h1,h2,h3,h4,h5,h6⟩ := q
 have S' := S.ext0 h4
 refine wpAny_assign_Name (fin (store_var ok hk S'.sta h6) fun _ s5 q => ?_)
 have hCfv : cenv.locals ∉ FV c.env := fun q => by obtain ⟨o,e⟩ := S.sta.loc.live _ q;rw [h2] at e;cases e
 have hCW : cenv.locals ∉ c.W := fun q => by obtain ⟨o,e⟩ := S.sta.win _ q;rw [h2] at e;cases e
 have hCb : c.hb.get? cenv.locals = none := by
  cases z : c.hb.get? cenv.locals with
  | none => rfl
  | some o => have := S.sta.stays.1 _ o z;rw [h2] at this;cases this
 have hC0 : cenv.locals ∉ c.V := fun q => by
  obtain ⟨o,e⟩ := V_live ok S.sta _ q;rw [h2] at e;cases e
 have hN : ∃ m,s5.heap.Ns cenv.locals m := by
  obtain ⟨m,hN⟩ := h5
  exact ⟨m,hN.at' fun o eo => q.1.keep _ o hCfv eo⟩
 refine ⟨hN.choose,hN.choose_spec,fun h' sb => ?_⟩
 have e1 : Ext [cenv.locals] s5 { s5 with heap := h' } := ext1 (t := s5.toks) sb.extBut
 refine ⟨?_,q.2.move e1 fun b hb => ?_⟩
 ·have e5 : Ext c.V s0 s5 := S'.ext.trans (q.1.mono fv_sub)
  refine ⟨fun p o np ep => e1.keep p o (fun z => ?_) (e5.keep p o np ep),e5.os,e5.gens⟩
  rw [List.mem_singleton.mp z] at ep
  have := S.ext.keep _ o hC0 ep
  rw [h2] at this;cases this
 ·rw [List.mem_singleton.mp hb]
  exact ⟨⟨hCW,noSeq_ns hN.choose_spec⟩,hCb,hCfv⟩
end
end
section
noncomputable def pairD (p : Int × Int) : D := .tup [.int p.1,.int p.2]
noncomputable def pLt (a b : Int × Int) : Bool := if a.1 == b.1 then (if a.2 == b.2 then false else decide (a.2 < b.2)) else decide (a.1 < b.1)
noncomputable def pMin (p : Int × Int) (r : List (Int × Int)) : Int × Int := r.foldl (fun best x => if pLt x best then x else best) p
section
variable {w : World} {A : Around} {W : List Addr} {s : Shared}
theorem rpair {h : Heap} {p : Int × Int} {v : Value} (r : Rel W h (pairD p) v) : ∃ a t u,v = .ref a ∧ a ∉ W ∧ IsTup h a #[.int p.1 t,.int p.2 u] := by
 revert W h p v;intros W h p v r
 obtain @⟨a,vs,rfl,ha,ht,hr⟩ := rtup r
 revert ht;refine rels2 hr ?_;clear hr;intros u1 u2;intro q1 q2 ht
 obtain @⟨t,rfl⟩ := rint q1
 obtain @⟨u,rfl⟩ := rint q2
 exact ⟨a,t,u,rfl,ha,ht⟩
theorem lt_pair {E : Value -> Shared -> Prop} {p q : Int × Int} {x y : Value} {Q : Value -> Shared -> Prop} (hu : A.units < cLine) (r1 : Rel W s.heap (pairD p) x) (r2 : Rel W s.heap (pairD q) y) (h : Q (.bool (pLt p q)) s) :
  wpAny (model PR w) A (richCompare .Lt x y) Q E s := by
 revert w A W s E p q x y Q;intros w A W s E p q x y Q hu r1 r2 h
 obtain @⟨a,t,u,rfl,ha,hta⟩ := rpair r1
 obtain @⟨b,t',u',rfl,hb,htb⟩ := rpair r2
 have hxb : s.TypeIs (.ref b) "tuple" := htb.typeIs
 have hxa : s.TypeIs (.ref a) "tuple" := hta.typeIs
 refine wpAny_richCompare_same_room hxa hxb F.slot_tuple_lt ?_ hu
 refine wpAny_call_entry F.slot_tuple_lt hxa F.entry_tuple_lt ?_ (F.args_tuple_lt_2 _ _)
 obtain @⟨oa,ea,ca,na,da⟩ := hta
 obtain @⟨ob,eb,cb,nb,db⟩ := htb
 show wpAny _ _ (isInstance (.ref b) (.type "tuple") >>= _) _ _ s
 refine wpAny_bind (wpAny_isInstance (T := "tuple") (b := true) hxb (by rw [isSubtype_type];kernel_rfl) ?_)
 simp only [Bool.not_true,Bool.false_eq_true,if_false]
 show wpAny _ _ (Builtin.Tuple.tupleItemsOf (.ref a) >>= _) _ _ s
 unfold Builtin.Tuple.tupleItemsOf
 refine wpAny_bind (wpAny_bind (wpAny_seqItems ea da (wpAny_pure ?_)))
 refine wpAny_bind (wpAny_bind (wpAny_seqItems eb db (wpAny_pure ?_)))
 have d1 : (Except.ok 1 : Except Nat Nat) = .ok 1 := rfl
 by_cases h1 : p.1 = q.1
 ·by_cases h2 : p.2 = q.2
  ·have e : pLt p q = false := by simp [pLt,h1,h2]
   rw [e] at h
   refine wpAny_bind (wpAny_bind (wpAny_bind (wpAny_eqBool_int ?_)))
   rw [show (p.1 == q.1) = true by simpa using h1]
   refine wpAny_pure (wpAny_bind (wpAny_bind (wpAny_eqBool_int ?_)))
   rw [show (p.2 == q.2) = true by simpa using h2]
   exact wpAny_pure (wpAny_pure (wpAny_pure ⟨_,rfl,(fun z => by cases z),h⟩))
  ·have e : pLt p q = decide (p.2 < q.2) := by simp [pLt,h1,h2]
   rw [e] at h
   refine wpAny_bind (wpAny_bind (wpAny_bind (wpAny_eqBool_int ?_)))
   rw [show (p.1 == q.1) = true by simpa using h1]
   refine wpAny_pure (wpAny_bind (wpAny_bind (wpAny_eqBool_int ?_)))
   rw [show (p.2 == q.2) = false by simpa using h2]
   refine wpAny_bind (wpAny_rule (wpAny_bind ?_))
   exact PyProof.Rows.lt_int (wpAny_bind (wpAny_pure (wpAny_pure (wpAny_pure (wpAny_pure ⟨_,rfl,(fun z => by cases z),h⟩)))))
 ·have e : pLt p q = decide (p.1 < q.1) := by simp [pLt,h1]
  rw [e] at h
  refine wpAny_bind (wpAny_bind (wpAny_bind (wpAny_eqBool_int ?_)))
  rw [show (p.1 == q.1) = false by simpa using h1]
  refine wpAny_bind (wpAny_rule (wpAny_bind ?_))
  exact PyProof.Rows.lt_int (wpAny_bind (wpAny_pure (wpAny_pure (wpAny_pure (wpAny_pure ⟨_,rfl,(fun z => by cases z),h⟩)))))
end
end
section
theorem wp_try {α : Type} {M : Model} {A : Around} {m : Sem α} {k : Value -> Sem α} {Q : α -> Shared -> Prop} {E : Value -> Shared -> Prop} {s : Shared} (h : wpAny M A m Q NoE s) : wpAny M A (tryCatch m k) Q E s :=
 wpAny_tryCatch (wpAny_mono h (fun _ _ x => x) fun _ _ x => x.elim)
section
variable {w : World} {A : Around} {W : List Addr}
theorem min_go {it : Value} {ds : List D} {ps : List (Int × Int)} {fp : List Addr} {T : Nat -> Heap -> Prop} {S : Addr} {I : Addr} {s0 : Shared} (hit : it = .ref I) (hds : ds = ps.map pairD) (Wk : IterAt w A.in1 (S :: W) it ds fp T) (hS : S ∉ fp) (hu : A.in1.units < cLine) (hn0 : s0.heap.get? S = none) (hfn : ∀ b ∈ fp,s0.heap.get? b = none) :
  ∀ (k i : Nat) (s : Shared) (best : Int × Int) (vb : Value) (c : Nat),ps.length - i = k -> i ≤ ps.length -> T i s.heap -> WIn (S :: W) s.heap -> Rel (S :: W) s.heap (pairD best) vb -> Ext [] s0 s ->
   s.heap.get? S = some { cls := .type "list",dict := none,data := .seq #[vb,vb] c,slots := #[] } ->
   codeAny (model PR w) A (.builtin "min.loop" ⟨[it,.none,.ref S],[]⟩) (fun r s' => ∃ v,r = .ok (.ret v) ∧ Ext [] s0 s' ∧ Rel (S :: W) s'.heap (pairD (pMin best (ps.drop i))) v) s := by
 revert w A W it ds ps fp T S I s0;intros w A W it ds ps fp T S I s0 hit hds Wk hS hu hn0 hfn
 subst hit
 have hname : (toString "min" ++ toString ".loop" : String) = "min.loop" := by decide
 have past : ∀ {V : List Addr} {s s' : Shared},Ext [] s0 s -> Ext V s s' -> (∀ b ∈ V,s0.heap.get? b = none) -> Ext [] s0 s' := fun x y hv =>
  ⟨fun b o _ e => y.keep b o (fun q => by rw [hv b q] at e;cases e) (x.all b o e),y.os.trans x.os,fun g => y.gens (x.gens g)⟩
 intros k
 induction k with
 | zero =>
  intros i s best vb c hk hi t hW r e0 hSs
  have hin : i = ps.length := Nat.le_antisymm hi (Nat.sub_eq_zero_iff_le.mp hk)
  subst hin
  refine codeAny_builtin F.entry_min_loop ?_
  rw [Around.under_plainId F.plain_min_loop _]
  show wpAny _ A.in1 (seqItems? (.ref S) >>= _) _ _ s
  refine wpAny_bind (wpAny_seqItems hSs rfl ?_)
  show wpAny _ A.in1 (tryCatch (pyNext (.ref I)) _ >>= _) _ _ s
  refine wpAny_bind (wp_try (fin (Wk.done s (by rw [hds,List.length_map];exact t)) fun v s1 q => ?_))
  obtain @⟨rfl,e1⟩ := q
  have hS' := e1.keep S _ hS hSs
  show wpAny _ A.in1 (updateSeq S (fun _ => #[]) >>= _) _ _ _
  refine wpAny_bind ?_
  refine wpAny_updateSeq hS' rfl (wpAny_bind (wpAny_letGo (wpAny_pure ?_)))
  have e2 : Ext [S] s1 { s1 with heap := s1.heap.update S (Obj.mapSeq fun _ => #[]) } := ext1 (t := s1.toks) (Heap.SameBut.update ..).extBut
  have nq : ∀ b ∈ fp,b ∈ S :: W ∨ NoSeq s.heap b := fun b q => .inr (Wk.quiet _ _ t b q)
  refine ⟨vb,rfl,past (past e0 e1 hfn) e2 (fun b q => by rw [List.mem_singleton.mp q];exact hn0),?_⟩
  rw [List.drop_length]
  exact (r.move e1.keep nq).move e2.keep fun b q => .inl (by rw [List.mem_singleton.mp q];exact List.mem_cons_self ..)
 | succ k ih =>
  revert k;intros k ih
  intros i s best vb c hk hi t hW r e0 hSs
  have hlt : i < ps.length := Nat.lt_of_sub_pos (by rw [hk];exact Nat.succ_pos k)
  refine codeAny_builtin F.entry_min_loop ?_
  rw [Around.under_plainId F.plain_min_loop _]
  show wpAny _ A.in1 (seqItems? (.ref S) >>= _) _ _ s
  refine wpAny_bind (wpAny_seqItems hSs rfl ?_)
  show wpAny _ A.in1 (tryCatch (pyNext (.ref I)) _ >>= _) _ _ s
  have hd : ds[i]? = some (pairD ps[i]) := by rw [hds,List.getElem?_map,List.getElem?_eq_getElem hlt];rfl
  refine wpAny_bind (wp_try (fin (Wk.next i s _ t hW hd) ?_))
  intros v s1 q
  obtain @⟨v,rfl,e1,t1,r1⟩ := q
  have hS' := e1.keep S _ hS hSs
  have nq : ∀ b ∈ fp,b ∈ S :: W ∨ NoSeq s.heap b := fun b q => .inr (Wk.quiet _ _ t b q)
  have rb : Rel (S :: W) s1.heap (pairD best) vb := r.move e1.keep nq
  have hW1 : WIn (S :: W) s1.heap := fun b hb => by
   by_cases z : b ∈ fp
   ·exact Wk.live _ _ t1 b z
   ·obtain @⟨o,eo⟩ := hW b hb;exact ⟨o,e1.keep b o z eo⟩
  have x1 := past e0 e1 hfn
  have hdrop : ps.drop i = ps[i] :: ps.drop (i + 1) := List.drop_eq_getElem_cons hlt
  show wpAny _ A.in1 (tryCatch (holding [v,v] (richCompare .Lt v vb >>= _)) _ >>= _) _ _ _
  refine wpAny_bind (wpAny_tryCatch (wpAny_holding (wpAny_bind (lt_pair hu r1 rb ?_))))
  refine wpAny_bind (wpAny_holding (wpAny_truthy_bool ?_))
  refine wpAny_bind (wpAny_letGo (wpAny_pure ?_))
  cases hb : pLt ps[i] best with
  | true =>
   simp only [if_true]
   refine wpAny_bind ?_
   refine wpAny_updateSeq hS' rfl (wpAny_bind (wpAny_letGo ?_))
   rw [hname]
   have e2 : Ext [S] s1 { s1 with heap := s1.heap.update S (Obj.mapSeq fun _ => #[v,v]) } := ext1 (t := s1.toks) (Heap.SameBut.update ..).extBut
   have nS : ∀ b ∈ [S],b ∈ S :: W ∨ NoSeq s1.heap b := fun b q => .inl (by rw [List.mem_singleton.mp q];exact List.mem_cons_self ..)
   have hSn := Heap.get?_update_self (h := s1.heap) (Obj.mapSeq fun _ => #[v,v]) hS' rfl
   refine wpAny_pure ⟨plainId_quiet F.plain_min_loop _,codeAny_mono (ih (i + 1) _ ps[i] v _ (congrArg Nat.pred hk) hlt (Wk.frame [S] _ _ _ (fun b q => ⟨by rw [List.mem_singleton.mp q];exact hS,nS b q⟩) e2.keep t1) (fun b hb => ?_) (r1.move e2.keep nS) (past x1 e2 (fun b q => by rw [List.mem_singleton.mp q];exact hn0)) hSn) fun r s' q => ?_⟩
   ·by_cases z : b = S
    ·subst z;exact ⟨_,hSn⟩
    ·obtain @⟨o,eo⟩ := hW1 b hb;exact ⟨o,e2.keep b o (by simpa using z) eo⟩
   ·rw [hdrop]
    unfold pMin at q ⊢
    rw [List.foldl_cons,hb]
    exact q
  | false =>
   simp only [Bool.false_eq_true,if_false]
   refine wpAny_bind (wpAny_letGo ?_)
   rw [hname]
   refine wpAny_pure ⟨plainId_quiet F.plain_min_loop _,codeAny_mono (ih (i + 1) _ best vb c (congrArg Nat.pred hk) hlt t1 hW1 rb x1 hS') fun r s' q => ?_⟩
   rw [hdrop]
   unfold pMin at q ⊢
   rw [List.foldl_cons,hb]
   exact q
theorem call_min {s : Shared} {p : Int × Int} {r : List (Int × Int)} {v : Value} (hh : A.handled = none) (hu : A.in1.units < cLine) (hW : WIn W s.heap) (rv : Rel W s.heap (.lst ((p :: r).map pairD)) v) :
  wpAny (model PR w) A (call (.builtin "min") [v]) (fun u s' => Ext [] s s' ∧ Rel W s'.heap (pairD (pMin p r)) u) NoE s := by
 revert w A W s p r v;intros w A W s p r v hh hu hW rv
 have hname : (toString "min" ++ toString ".loop" : String) = "min.loop" := by decide
 obtain ⟨l,vs,rfl,hl,hL,hR⟩ := rlst rv
 refine call_function_tree F.kind_min F.plain_min F.entry_min (F.args_min1 _) ?_
 show wpAny _ A.in1 (Builtin.Builtins.bindParams "min" ["key","default"] 0 ⟨[],[]⟩ >>= _) _ _ s
 refine wpAny_bind (wpAny_of_eq (show Builtin.Builtins.bindParams "min" ["key","default"] 0 ⟨[],[]⟩ = pure [none,none] from rfl) ?_)
 refine wpAny_bind (wpAny_pure ?_)
 refine wpAny_bind (wpAny_pyIter_list hL ?_)
 refine wpAny_bind (wpAny_newObj_type ?_ (by size_fits))
 rw [hname]
 generalize hi : s.heap.objs.size = i0
 simp only [hi]
 have hz : ∀ b,i0 ≤ b -> s.heap.get? b = none := fun b hb => by
  cases e : s.heap.get? b with
  | none => rfl
  | some o => exact absurd (Heap.lt_size e) (by rw [hi];exact Nat.not_lt.mpr hb)
 generalize hh1 : s.heap.push { cls := .type "list_iterator",data := .fields #[.ref l,.int 0 0] } = h1
 have hs1 : h1.objs.size = i0 + 1 := by rw [← hh1,Heap.size_push,hi]
 simp only [hs1]
 generalize hh2 : h1.push { cls := .type "list",dict := none,data := .seq ([] : List Value).toArray } = h2
 have k1 : ∀ b o,s.heap.get? b = some o -> h1.get? b = some o := fun b o e => by rw [← hh1];exact Heap.get?_push_of_some _ e
 have k2 : ∀ b o,h1.get? b = some o -> h2.get? b = some o := fun b o e => by rw [← hh2];exact Heap.get?_push_of_some _ e
 have e2 : Ext [] s { s with heap := h2 } := ⟨fun b o _ e => k2 b o (k1 b o e),rfl,fun x => x⟩
 have hSg : h2.get? (i0 + 1) = some { cls := .type "list",dict := none,data := .seq ([] : List Value).toArray } := by rw [← hh2,← hs1];exact Heap.get?_push_size _ rfl
 have hIg : h2.get? i0 = some { cls := .type "list_iterator",data := .fields #[.ref l,.int 0 0] } := k2 _ _ (by rw [← hh1,← hi];exact Heap.get?_push_size _ rfl)
 have hSW : i0 + 1 ∉ W := fun q => by obtain ⟨o,eo⟩ := hW _ q;rw [hz _ (Nat.le_succ _)] at eo;cases eo
 have hlne : l ≠ i0 := fun q => by obtain ⟨o,eo,_⟩ := hL;rw [q,hz _ (Nat.le_refl _)] at eo;cases eo
 have hlS : l ∉ (i0 + 1) :: W := by obtain ⟨o,eo,_⟩ := hL;exact not_wide hl eo (hz _ (Nat.le_succ _))
 have Wk : IterAt w A.in1 ((i0 + 1) :: W) (.ref i0) ((p :: r).map pairD) [i0] _ := IterAt.lst (vs := vs) hh hlne hlS
 have t0 : h2.IsListIter i0 l 0 ∧ h2.IsList l vs.toArray ∧ Rels ((i0 + 1) :: W) h2 ((p :: r).map pairD) vs := ⟨⟨_,hIg,rfl,rfl⟩,isList_move hL fun o e => k2 _ _ (k1 _ _ e),(hR.widen (hz _ (Nat.le_succ _))).move (V := []) (fun b o _ e => k2 b o (k1 b o e)) fun _ q => nomatch q⟩
 have hW2 : WIn ((i0 + 1) :: W) h2 := fun b hb => by
  rcases List.mem_cons.mp hb with rfl | hb
  ·exact ⟨_,hSg⟩
  ·obtain ⟨o,eo⟩ := hW b hb;exact ⟨o,k2 _ _ (k1 _ _ eo)⟩
 have hSI : i0 + 1 ∉ [i0] := by simp
 refine wpAny_pure ⟨plainId_quiet F.plain_min_loop _,?_⟩
 refine codeAny_builtin F.entry_min_loop ?_
 rw [Around.under_plainId F.plain_min_loop _]
 show wpAny _ A.in1 (seqItems? (.ref (i0 + 1)) >>= _) _ _ _
 refine wpAny_bind (wpAny_seqItems hSg rfl ?_)
 show wpAny _ A.in1 (tryCatch (pyNext (.ref i0)) _ >>= _) _ _ _
 refine wpAny_bind (wp_try (fin (Wk.next 0 _ (pairD p) t0 hW2 rfl) fun v s3 q => ?_))
 obtain ⟨v,rfl,e3,t3,r3⟩ := q
 have hS3 := e3.keep (i0 + 1) _ hSI hSg
 show wpAny _ A.in1 (updateSeq (i0 + 1) (fun _ => #[v,v]) >>= _) _ _ _
 refine wpAny_bind ?_
 refine wpAny_updateSeq hS3 rfl ?_
 rw [hname]
 have e4 : Ext [i0 + 1] s3 { s3 with heap := s3.heap.update (i0 + 1) (Obj.mapSeq fun _ => #[v,v]) } := ext1 (t := s3.toks) (Heap.SameBut.update ..).extBut
 have nS : ∀ b ∈ [i0 + 1],b ∈ (i0 + 1) :: W ∨ NoSeq s3.heap b := fun b q => .inl (by rw [List.mem_singleton.mp q];exact List.mem_cons_self ..)
 have hSn := Heap.get?_update_self (h := s3.heap) (Obj.mapSeq fun _ => #[v,v]) hS3 rfl
 have e5 : Ext [] s { s3 with heap := s3.heap.update (i0 + 1) (Obj.mapSeq fun _ => #[v,v]) } := ⟨fun b o _ e => e4.keep b o (fun q => by rw [List.mem_singleton.mp q,hz _ (Nat.le_succ _)] at e;cases e) (e3.keep b o (fun q => by rw [List.mem_singleton.mp q,hz _ (Nat.le_refl _)] at e;cases e) (e2.all b o e)),e3.os,e3.gens⟩
 refine wpAny_pure ⟨plainId_quiet F.plain_min_loop _,codeAny_mono (min_go (s0 := s) (ps := p :: r) rfl rfl Wk hSI hu (hz _ (Nat.le_succ _)) (fun b q => by rw [List.mem_singleton.mp q];exact hz _ (Nat.le_refl _)) _ 1 _ p v _ rfl (by simp) (Wk.frame [i0 + 1] _ _ _ (fun b q => ⟨by rw [List.mem_singleton.mp q];exact hSI,nS b q⟩) e4.keep t3) (fun b hb => ?_) (r3.move e4.keep nS) e5 hSn) fun r s' q => ?_⟩
 ·by_cases z : b = i0 + 1
  ·subst z;exact ⟨_,hSn⟩
  ·by_cases z' : b = i0
   ·subst z';obtain ⟨o,e⟩ := Wk.live _ _ t3 b (List.mem_singleton.mpr rfl);exact ⟨o,e4.keep b o (by simp) e⟩
   ·obtain ⟨o,eo⟩ := hW2 b hb;exact ⟨o,e4.keep b o (by simpa using z) (e3.keep b o (by simpa using z') eo)⟩
 ·obtain ⟨v,rfl,e6,r6⟩ := q
  exact ⟨e6,(by simpa using r6 : Rel ((i0 + 1) :: W) s'.heap _ v).narrow⟩
end
theorem JE.min {c : Cx} {I : Asr c.W} {ρ : List (Str × D)} {n : Nat} {f e : Expr} {pos : Pos} {p : Int × Int} {r : List (Int × Int)} (ok : c.Ok n) (hf : JE c I ρ f (.val (.builtin "min"))) (h : JE c I ρ e (.lst ((p :: r).map pairD)))
  (he : starEach [e] c.env = (false,eval e c.env) :: starEach [] c.env := by rfl)
  (hq : eval (.Call f [e] [] pos) c.env = (do callWith pos (← eval f c.env) [] (backTo pos (starEach [e] c.env)) (backToKw pos (keywordEach [] c.env))) := by rfl) : JE c I ρ (.Call f [e] [] pos) (pairD (pMin p r)) := fun s S => by
 refine Call_bltn ok hf (.inr ⟨_,rfl⟩) (JEs.cons h JEs.nil he) S (fun vs s1 e1 r => ?_) he (fun _ => rfl) hq
 refine rels1 r ?_;clear r;intro v r1
 exact fin (call_min ok.room.hh (by have := ok.un;show c.A.units + 1 < 9900;omega) (S.ext e1).win r1) fun u s2 q => ⟨e1.trans q.1,q.2⟩
end
section
open Builtin Builtin.ObjectAttr Builtin.Getset_descriptor
theorem list_passes (self : Value) : refuseLoop self "__setattr__" [.type "list",.type "object"] = pure () := by kernel_rfl
section
variable {w : World} {A : Around} {s : Shared} {K : Frag} {x C : Addr} {R : Result -> Shared -> Prop}
theorem osa_openL {ox : Obj} {od : Option Obj} {name : Str} {tk : Tok} {v : Value} {r : Option Value} {cd : ClassData} (X : K.In s.heap) (I : InstAt s.heap x ox C od) (hc : clsIn K C = some cd) (hm : cd.mro = [.ref C,.type "list",.type "object"]) (ht : takerIn K C name = some r)
  (h : ∀ b,wpAny (model PR w) A.in1 (match r with | some a => setByDescriptor a (.ref x) v | none => storeInOwnDict (.ref x) (.ref C) (.str name tk) name v b)
   (fun fin s' => match fin with | .done f => R (.ok f) s' | .again c' => c'.quiet = true ∧ codeAny (model PR w) A c' R s') (fun e s' => R (.error e) s') s) :
  codeAny (model PR w) A (.call (.builtin "object.__setattr__") ⟨[.ref x,.str name tk,v],[]⟩) R s := by
 have SF := PySem.F.store_object
 have ne : cd.mro.isEmpty = false := by rw [hm];rfl
 have sub : Looks (model PR w) s.heap (isInstance (.ref x) (.type "object")) true := I.type.andThen (looks_mroIn X (by unfold mroIn;rw [hc,Option.bind_some,if_neg (by rw [ne];decide),hm];simp))
 refine codeAny_call_builtin SF.slot.plain SF.entry (@check_slot (model PR w) _ _ s "object.__setattr__" "object" "__setattr__" (.ref x) [.str name tk,v] [] _ SF.kind SF.split sub (SF.args (.ref x) (.str name tk) v) ?_)
 obtain ⟨attr,ha,hr⟩ := Option.bind_eq_some_iff.mp ht
 have hmr : Looks (model PR w) s.heap (mroOf (.ref C)) cd.mro := (looks_clsIn X hc).andThen .now
 have L3 : Looks (model PR w) s.heap (storeTaker? attr) r := by
  cases attr with
  | none => cases hr;exact .now
  | some a =>
   obtain ⟨b,hb,rfl⟩ := Option.map_eq_some_iff.mp hr
   refine (looks_takesIn X hb).andThen ?_
   cases b <;> exact .now
 rw [osa_eq,refuse_eq]
 refine wpAny_bind (wpAny_bind (I.type.here (wpAny_bind (hmr.here ?_))))
 rw [hm,refuseLoop_ref,list_passes]
 refine wpAny_pure (wpAny_bind (I.type.here (wpAny_bind ((looks_findIn X ha).here (wpAny_bind (L3.here ?_))))))
 exact h _
set_option tactic.hygienic true in
theorem own_store {ox od od' : Obj} {dx : Addr} {name : Str} {tk : Tok} {v : Value} {es : List DictEntry} {n : Nat} {b : Bool} (X : K.In s.heap) (I : InstAt s.heap x ox C (some od)) (hd : ox.dict = some dx) (hh : (clsIn K C).any (·.hasDict) = true)
  (hl : (lookIn name od).isSome = true) (e : Obj.putName name (PyData.keyHash w.params name) (.str name s.toks) v od = od') (e' : od'.data = .dict es.toArray n) (hz : es.length ≤ 1000)
  (h : ∀ h',Heap.SameBut dx s.heap h' -> h'.get? dx = some od' -> R (.ok (.ret .none)) { s with heap := h',toks := s.toks + 1 }) :
  wpAny (model PR w) A.in1 (storeInOwnDict (.ref x) (.ref C) (.str name tk) name v b)
   (fun fin s' => match fin with | .done f => R (.ok f) s' | .again c' => c'.quiet = true ∧ codeAny (model PR w) A c' R s') (fun e s' => R (.error e) s') s := by
 revert w A s K x C R ox od od' dx name tk v es n b;intros w A s K x C R ox od od' dx name tk v es n b X I hd hh hl e e' hz h
 obtain @⟨cd,hc,hd'⟩ := any_some hh
 obtain @⟨hx,hcl,hn,hdd⟩ := I
 obtain @⟨oc,odi,oda,osl⟩ := ox
 dsimp only at hcl hd hdd
 subst hcl hd
 dsimp only at hdd
 have D := hdd
 have D' : (s.heap.update dx (Obj.putName name (PyData.keyHash w.params name) (.str name s.toks) v)).get? dx = some od' := by
  rw [Heap.get?_update_self _ D (by rw [e];obtain @⟨_,_,dd,_⟩ := od';cases e';rfl),e]
 refine wpAny_bind (wpAny_pure (wpAny_bind (wpAny_bind (wpAny_loadPart hx (wpAny_bind ((looks_clsIn X hc).here ?_))))))
 rw [hd']
 refine wpAny_pure (a := some dx) (wpAny_bind (wpAny_pure (wpAny_bind ?_)))
 unfold nsSet
 refine wpAny_bind (wpAny_bind (wpAny_askSetting (wpAny_pure (wpAny_bind (wpAny_mkText (wpAny_bind (wpAny_loadPart D ?_)))))))
 unfold lookIn at hl
 split at hl
 ·rename_i es₀ n₀ q
  rw [q]
  dsimp only
  have c : (!es₀.any (·.key.isStr name) && es₀.any (·.refKey)) = false := by
   rw [← Array.any_toList,← Array.any_toList]
   split at hl
   ·rename_i en he
    rw [List.any_eq_true.mpr ⟨en,List.mem_of_find?_eq_some he,List.find?_some he⟩];rfl
   ·split at hl
    ·cases hl
    ·rename_i z;rw [Bool.not_eq_true] at z;rw [z,Bool.and_false]
  rw [aRefKeyMayBeTheName_at,c]
  refine wpAny_updatePart D ?_
  refine wpAny_bind (wpAny_lookBehind D' (by rw [e'];exact pastItsLine_dict (by rw [List.size_toArray,sizeLine_eq];omega)) ?_)
  exact wpAny_pure (h _ (Heap.SameBut.update ..) D')
 ·cases hl
end
end
theorem isStr_eq {k : Value} {x y : Str} (h : k.isStr x = true) (h' : k.isStr y = true) : x = y := by
 cases k <;> simp_all [Value.isStr]
theorem isStr_self (x : Str) (t : Tok) : (Value.str x t).isStr x = true := by simp [Value.isStr]
theorem putL_find_self (x : Str) (hs : Int) (t : Tok) (v : Value) : ∀ es : List DictEntry,∃ e,(putL x hs (.str x t) v es).find? (·.key.isStr x) = some e ∧ e.val = v
 | [] => ⟨⟨hs,.str x t,v⟩,by simp [putL,isStr_self],rfl⟩
 | e :: r => by
  unfold putL
  split
  ·rename_i h
   exact ⟨⟨e.hash,e.key,v⟩,by simp [h],rfl⟩
  ·rename_i h
   obtain ⟨e',h1,h2⟩ := putL_find_self x hs t v r
   exact ⟨e',by rw [List.find?_cons];simp [h,h1],h2⟩
theorem putL_find_other {x y : Str} (hxy : y ≠ x) (hs : Int) (t : Tok) (v : Value) : ∀ es : List DictEntry,((putL x hs (.str x t) v es).find? (·.key.isStr y)).map (·.val) = (es.find? (·.key.isStr y)).map (·.val)
 | [] => by
  have : (Value.str x t).isStr y = false := by
   cases h : (Value.str x t).isStr y with
   | false => rfl
   | true => exact absurd (isStr_eq h (isStr_self x t)) hxy
  simp [putL,this]
 | e :: r => by
  unfold putL
  split
  ·rename_i h
   have hn : e.key.isStr y = false := by
    cases q : e.key.isStr y with
    | false => rfl
    | true => exact absurd (isStr_eq q h) hxy
   simp [hn]
  ·rename_i h
   have ih := putL_find_other hxy hs t v r
   rw [List.find?_cons,List.find?_cons]
   cases e.key.isStr y with
   | true => rfl
   | false => exact ih
theorem putL_refs (x : Str) (hs : Int) (t : Tok) (v : Value) : ∀ es : List DictEntry,(putL x hs (.str x t) v es).any (·.refKey) = es.any (·.refKey)
 | [] => by simp [putL,DictEntry.refKey]
 | e :: r => by
  unfold putL
  split
  ·simp [DictEntry.refKey]
  ·rw [List.any_cons,List.any_cons,putL_refs x hs t v r]
theorem getL_eq (x : Str) (es : List DictEntry) : getL x es = match (es.find? (·.key.isStr x)).map (·.val) with | some v => some (some v) | none => if es.any (·.refKey) then none else some none := by
 unfold getL
 cases es.find? (·.key.isStr x) <;> rfl
theorem getL_put_self (x : Str) (hs : Int) (t : Tok) (v : Value) (es : List DictEntry) : getL x (putL x hs (.str x t) v es) = some (some v) := by
 obtain ⟨e,h1,h2⟩ := putL_find_self x hs t v es
 rw [getL_eq,h1,Option.map_some,h2]
theorem getL_put_other {x y : Str} (hxy : y ≠ x) (hs : Int) (t : Tok) (v : Value) (es : List DictEntry) : getL y (putL x hs (.str x t) v es) = getL y es := by
 rw [getL_eq,getL_eq,putL_find_other hxy,putL_refs]
theorem putL_length (x : Str) (hs : Int) (k v : Value) : ∀ es : List DictEntry,(putL x hs k v es).length ≤ es.length + 1
 | [] => by simp [putL]
 | e :: r => by unfold putL;split <;> simp <;> (have := putL_length x hs k v r;omega)
noncomputable def InstD (W : List Addr) (h : Heap) (x dx C : Addr) (dat : Data) (at_ : List (Str × D)) (k : Nat) : Prop :=
 ∃ es n,h.get? x = some ⟨.ref C,some dx,dat,#[]⟩ ∧ h.get? dx = some (dictOf es n) ∧ es.length ≤ k ∧
  ∀ y,(at_.lookup y = none -> getL y es = some none) ∧ ∀ d,at_.lookup y = some d -> ∃ v,getL y es = some (some v) ∧ Rel W h d v ∧ handedIn v = true
theorem InstD.move {W V : List Addr} {h h' : Heap} {x dx C : Addr} {dat : Data} {at_ : List (Str × D)} {k : Nat} (I : InstD W h x dx C dat at_ k) (hx : x ∉ V) (hdx : dx ∉ V) (hV : ∀ b ∈ V,b ∈ W ∨ NoSeq h b) (kp : ∀ b o,b ∉ V -> h.get? b = some o -> h'.get? b = some o) : InstD W h' x dx C dat at_ k := by
 revert W V h h' x dx C dat at_ k;intros W V h h' x dx C dat at_ k I hx hdx hV kp
 obtain @⟨es,n,h1,h2,h3,h4⟩ := I
 exact ⟨es,n,kp _ _ hx h1,kp _ _ hdx h2,h3,fun y => ⟨(h4 y).1,fun d e => let ⟨v,a,b,c⟩ := (h4 y).2 d e;⟨v,a,b.move kp hV,c⟩⟩⟩
theorem InstD.inst {W : List Addr} {h : Heap} {x dx C : Addr} {dat : Data} {at_ : List (Str × D)} {k : Nat} (I : InstD W h x dx C dat at_ k) (hc : ∀ cd,dat ≠ .cls cd) : ∃ es n,InstAt h x ⟨.ref C,some dx,dat,#[]⟩ C (some (dictOf es n)) ∧ es.length ≤ k ∧
  ∀ y,(at_.lookup y = none -> getL y es = some none) ∧ ∀ d,at_.lookup y = some d -> ∃ v,getL y es = some (some v) ∧ Rel W h d v ∧ handedIn v = true := by
 revert W h x dx C dat at_ k;intros W h x dx C dat at_ k I hc
 obtain @⟨es,n,h1,h2,h3,h4⟩ := I
 exact ⟨es,n,⟨h1,rfl,by cases dat <;> first | rfl | exact absurd rfl (hc _),h2⟩,h3,h4⟩
section
structure Amb (w : World) (hb : Heap) (W U : List Addr) : Prop where
 g : Gr w hb
 wh : ∀ b ∈ W,hb.get? b = none
 sub : ∀ b ∈ U,b ∈ W
noncomputable def SpecX (w : World) (hb : Heap) (W U : List Addr) (m : Nat) (f : Addr) (I : Asr W) (ds : List D) (d : D) (I' : Asr W) : Prop :=
 ∀ (A : Around) (s : Shared) (vs : List Value),Room A m -> hb.StaysIn s.heap -> hb.objs.size ≤ s.heap.objs.size -> WIn W s.heap -> I.P s.heap -> Rels W s.heap ds vs ->
  wpAny (model PR w) A (call (.ref f) vs) (fun v s' => Ext U s s' ∧ Rel W s'.heap d v ∧ WIn W s'.heap ∧ I'.P s'.heap) NoE s
noncomputable def RQX (c : Cx) (s0 : Shared) (d : D) (I' : Asr c.W) : Flow -> Shared -> Prop := fun f s' => ∃ v,(f = .ret v ∨ (f = .next ∧ v = .none)) ∧ Ext c.V s0 s' ∧ Rel c.W s'.heap d v ∧ WIn c.W s'.heap ∧ I'.P s'.heap
theorem spec_enterX {m : Nat} {f : Addr} {d : D} {ρ : List (Str × D)} {w : World} {hb : Heap} {W U : List Addr} {I I' : Asr W} {A : Around} {s : Shared} {vs : List Value} {binds : List (Str × Value)}
  {name qual : Str} {params : Arguments} {body : List Stmt} {scope : Scope} {dV kV doc pm cdv ct oc : Value} {an od : Option Addr} {osl : Array (Option Value)}
  (g : Amb w hb W U) (room : Room A (m + 1)) (hst : hb.StaysIn s.heap) (hsz : hb.objs.size ≤ s.heap.objs.size) (hW : WIn W s.heap) (hI : I.P s.heap)
  (ho : (hd.heap_1 w.params).lookup f = some ⟨oc,od,.func (fnOf name qual params body scope dV kV doc pm an cdv ct),osl⟩) (hcd : codeIn (hd.heap_1 w.params) cdv qual = true)
  (hbind : bindArgs (fnOf name qual params body scope dV kV doc pm an cdv ct) ⟨vs,[]⟩ = pure binds) (hρ : BRel W s.heap ρ binds.reverse)
  (hkind : (binds.all fun y => scope.names.lookup y.1 == some .local || scope.names.lookup y.1 == some .cell) = true)
  (hnd : ((cellsFrom 0 scope.names []).map (·.1)).Nodup)
  (h : ∀ (A' : Around) (env : Env) (s0 : Shared) (L : Addr),env = envOfC qual scope L f cdv -> (Cx.mk w hb W U A' env).Ok m -> JP (Cx.mk w hb W U A' env) (Sto (Cx.mk w hb W U A' env) I s0 ρ) body (RQX (Cx.mk w hb W U A' env) s0 d I'))
  (hco : scope.isCoroutine = false) (hgen : scope.isGenerator = false) (hk : scope.kind = .function) :
  wpAny (model PR w) A (call (.ref f) vs) (fun v s' => Ext U s s' ∧ Rel W s'.heap d v ∧ WIn W s'.heap ∧ I'.P s'.heap) NoE s := by
 obtain ⟨p,loose,mg,mb,T⟩ := g.g.T
 refine wpAny_call ?_
 refine codeAny_call_cells (fd := fnOf name qual params body scope dV kV doc pm an cdv ct) (by have := room.dp;simp only [recursionLimit];omega) (hst _ _ (g.g.X _ _ ho)) rfl (T.nolimit.keeps hst) (codeRec_of (K := hd.heap_1 w.params) (fun a o e => hst a o (g.g.X a o e)) hcd) rfl hbind rfl
  (fun x hx => kindsX hkind _ x hx) (fun s0 X => ?_) hco hgen hk
 have henv : callEnvC (fnOf name qual params body scope dV kV doc pm an cdv ct) s.heap.objs.size f = envOfC qual scope s.heap.objs.size f cdv := rfl
 rw [henv] at X ⊢
 obtain ⟨h0,tk,rfl,hkp⟩ := X.done
 have e0 : Ext [] s { s with heap := h0,toks := tk } := ⟨fun b o _ => hkp b o,rfl,fun x => x⟩
 have hLW : s.heap.objs.size ∉ W := hW.fresh
 have above : ∀ n a,(n,a) ∈ (envOfC qual scope s.heap.objs.size f cdv).cells -> s.heap.objs.size < a := X.above
 have okc : Cx.Ok ⟨w,hb,W,U,A.deeper (envOfC qual scope s.heap.objs.size f cdv),envOfC qual scope s.heap.objs.size f cdv⟩ m := by
  refine ⟨g.g,⟨hk,X.apart,fun n a hm => Nat.ne_of_gt (above n a hm),fun n a hm _ => ?_,rfl,rfl⟩,⟨room.hh,?_,?_⟩,g.sub,g.wh⟩
  ·cases e : hb.get? a with
   | none => rfl
   | some o => exact absurd (Nat.lt_of_lt_of_le (Heap.lt_size e) hsz) (Nat.not_lt.mpr (Nat.le_of_lt (above n a hm)))
  ·have := room.dp;simp only [Around.deeper];omega
  ·have := room.un;simp only [Around.deeper];omega
 have S0 : Sta ⟨w,hb,W,U,A.deeper (envOfC qual scope s.heap.objs.size f cdv),envOfC qual scope s.heap.objs.size f cdv⟩ I ρ { s with heap := h0,toks := tk } := by
  refine ⟨⟨⟨_,⟨X.toInCall.ns,fun b o e => hkp b o (hst b o e),hsz⟩,fun x d e => ?_⟩,fun n a hm => ?_,hLW⟩,hW.ext e0,I.st [] _ _ e0.keep (fun _ q => nomatch q) hI⟩
  ·obtain ⟨v,hv,r⟩ := hρ.look e
   have hmem := mem_of_lookup hv
   have hkx := List.all_eq_true.mp hkind (x,v) (List.mem_reverse.mp hmem)
   by_cases hl : scope.names.lookup x = some .local
   ·exact .inl ⟨hl,v,by rw [bindL_look hl,hv];rfl,r.ext e0⟩
   ·have hc : scope.names.lookup x = some .cell := by simpa [hl] using hkx
    have hcl := (kindsX hkind (s.heap.objs.size + 1) (x,v) (List.mem_reverse.mp hmem)).resolve_left hl
    obtain ⟨a,ha⟩ := Option.isSome_iff_exists.mp hcl.2
    refine .inr ⟨.inl hc,a,v,ha,?_,r.ext e0⟩
    have := X.cell x a ha
    rw [bindC_look (by show scope.names.lookup x ≠ _;rw [hc];decide),hv] at this
    exact this
  ·refine ⟨?_,fun q => ?_⟩
   ·exact ⟨_,X.cell n a (look_of_mem (by show ((cellsFrom (s.heap.objs.size + 1) scope.names []).map (·.1)).Nodup;rw [cells_names _ 0 scope.names [] [] rfl];exact hnd) hm)⟩
   ·obtain ⟨o,e⟩ := hW a q
    exact absurd (Nat.lt_trans (Heap.lt_size e) (above n a hm)) (Nat.lt_irrefl _)
 refine fin (h _ _ _ s.heap.objs.size rfl okc _ ⟨Ext.refl _ _,S0⟩) fun fl s' r => ?_
 obtain ⟨v,hv,e,rr,hw,hi⟩ := r
 have e2 : Ext U s s' := ⟨fun b o nb eb => e.keep b o (fun q => ?_) (hkp b o eb),e.os,e.gens⟩
 ·rcases hv with rfl | ⟨rfl,rfl⟩ <;> exact ⟨e2,rr,hw,hi⟩
 ·have hlt := Heap.lt_size eb
  rcases List.mem_append.mp q with q | q
  ·exact nb q
  ·rcases List.mem_cons.mp q with q | q
   ·subst q;exact absurd hlt (Nat.lt_irrefl _)
   ·obtain ⟨⟨n,a⟩,hm,rfl⟩ := List.mem_map.mp q
    exact absurd (Nat.lt_trans hlt (above n a hm)) (Nat.lt_irrefl _)
section
variable {c : Cx} {I I' : Asr c.W} {ρ : List (Str × D)} {n : Nat} {s0 : Shared} {Q : Flow -> Shared -> Prop} {rest : List Stmt} {x dx C : Addr} {k : Nat} {at_ : List (Str × D)}
noncomputable def HasI (I : Asr c.W) (x dx C : Addr) (at_ : List (Str × D)) (k : Nat) : Prop := ∀ h,I.P h -> ∃ dat,(∀ cd,dat ≠ .cls cd) ∧ InstD c.W h x dx C dat at_ k
theorem JE.attr {o : Expr} {name : Str} {apos : Pos} {d : D} {attr : Option Value} (ok : c.Ok n) (ho : JE c I ρ o (.val (.ref x))) (hI : HasI I x dx C at_ k) (hat : at_.lookup name = some d)
  (hg : plainGet (hd.heap_1 c.w.params) C name = true) (hh : hasDictIn (hd.heap_1 c.w.params) C = true) (ha : findIn (hd.heap_1 c.w.params) (.ref C) name = some attr) (hn : noGet (hd.heap_1 c.w.params) attr = true)
  (he : eval (.Attribute o name apos) c.env = (do
   let ov ← eval o c.env
   standAt apos.atName
   let r ← holding [ov] (getAttr ov name true)
   letTemporaryGo o ov r
   pure r) := by with_unfolding_all rfl) : JE c I ρ (.Attribute o name apos) d := fun s S => by
 refine Attribute_any_ (fin (ho s S) fun ov s1 q => ?_) he
 rw [rval q.2]
 have S1 := S.ext q.1
 obtain ⟨dat,hc,J⟩ := hI _ S1.asr
 obtain ⟨es,m,J,_,hl⟩ := J.inst hc
 obtain ⟨v,h1,h2,h3⟩ := (hl name).2 d hat
 exact get_value (S1.kin ok) J (plainGet_of hg).1 (findObj_own hh ha hn ((lookIn_dict _ _ _).trans h1)) h3 ⟨q.1.trans (Ext.tok _ _ _),h2⟩
theorem meth_go {d : D} {ds : List D} {f : Addr} {m : Nat} (ok : c.Ok n) (hm : m ≤ n) (sp : SpecX c.w c.hb c.W c.U m f I (.val (.ref x) :: ds) d I') {s s1 : Shared} (q : Ext [] s s1) (S1 : Sta c I ρ s1) :
  ∀ vs s2,Ext [] s1 s2 -> Rels c.W s2.heap ds vs -> wpAny c.M c.A (call (.ref f) ([.ref x] ++ vs)) (fun v s' => Ext c.U s s' ∧ Rel c.W s'.heap d v ∧ Sta c I' ρ s') NoE s2 := fun vs s2 e2 r2 => by
 have S2 := S1.ext e2
 refine fin (sp c.A s2 _ (ok.room.le hm) S2.stays.1 S2.stays.2 S2.win S2.asr (by unfold Rels;exact ⟨_,_,rfl,mval,r2⟩)) fun v s3 z => ?_
 obtain ⟨z1,z2,z3,z4⟩ := z
 exact ⟨(q.nil.trans e2.nil).trans z1,z2,S2.upd ok z1 (fun b hb => hb) (fun b hb => z3 b (ok.sub b hb)) z4⟩
theorem meth_get {name : Str} {f : Addr} {pl : Sem Bool} {s1 : Shared} {Q : Value × List Value -> Shared -> Prop} (ok : c.Ok n) (S1 : Sta c I ρ s1) (hI : HasI I x dx C at_ k) (hat : at_.lookup name = none)
  (hg : plainGet (hd.heap_1 c.w.params) C name = true) (hf : findIn (hd.heap_1 c.w.params) (.ref C) name = some (some (.ref f))) (ht : isFn (hd.heap_1 c.w.params) (.ref f) = true) (h : Q (.ref f,[.ref x]) s1) :
  wpAny c.M c.A (getMethod (.ref x) name pl) Q NoE s1 := by
 obtain ⟨dat,hc,J⟩ := hI _ S1.asr
 obtain ⟨es,k',J,_,hl⟩ := J.inst hc
 have h1 := (hl name).1 hat
 exact method_fn (S1.kin ok) J (plainGet_of hg).1 (plainGet_of hg).2 hf (beq_iff_eq.mp ht) (by show (lookIn name (dictOf es k')).map _ = _;rw [lookIn_dict,h1];rfl) h
theorem XE.meth0 {o : Expr} {name : Str} {apos pos : Pos} {d : D} {f : Addr} {m : Nat} (ok : c.Ok n) (hm : m ≤ n) (ho : JE c I ρ o (.val (.ref x))) (hI : HasI I x dx C at_ k) (hat : at_.lookup name = none)
  (hg : plainGet (hd.heap_1 c.w.params) C name = true) (hf : findIn (hd.heap_1 c.w.params) (.ref C) name = some (some (.ref f))) (ht : isFn (hd.heap_1 c.w.params) (.ref f) = true) (hk : keepIn (hd.heap_1 c.w.params) (.ref f) = true)
  (sp : SpecX c.w c.hb c.W c.U m f I [.val (.ref x)] d I')
  (he : ∃ pl,eval (.Call (.Attribute o name apos) [] [] pos) c.env = (do
   let ov ← eval o c.env
   standAt apos.atName
   let (f,first) ← holding [ov] (getMethod ov name pl)
   callWith pos f first (backTo pos (starEach [] c.env)) []) := by exact ⟨_,rfl⟩) :
  XE c I ρ (.Call (.Attribute o name apos) [] [] pos) d I' := fun s S => by
 obtain ⟨pl,he⟩ := he
 refine MethodCall_ (pl := pl) (fin (ho s S) fun ov s1 q => ?_) he
 rw [rval q.2]
 have S1 := S.ext q.1
 refine meth_get ok S1 hI hat hg hf ht (callWith_K0 (S1.kin ok) hk ?_)
 exact meth_go ok hm sp q.1 S1 [] s1 (Ext.refl _ _) (by unfold Rels;rfl)
theorem XE.meth {o e : Expr} {name : Str} {apos pos : Pos} {args : List Expr} {ds : List D} {d : D} {f : Addr} {m : Nat} (ok : c.Ok n) (hm : m ≤ n) (ho : JE c I ρ o (.val (.ref x))) (hI : HasI I x dx C at_ k) (hat : at_.lookup name = none)
  (hg : plainGet (hd.heap_1 c.w.params) C name = true) (hf : findIn (hd.heap_1 c.w.params) (.ref C) name = some (some (.ref f))) (ht : isFn (hd.heap_1 c.w.params) (.ref f) = true) (hk : keepIn (hd.heap_1 c.w.params) (.ref f) = true)
  (ha : JEs c I ρ (e :: args) ds) (sp : SpecX c.w c.hb c.W c.U m f I (.val (.ref x) :: ds) d I')
  (he : ∃ pl,eval (.Call (.Attribute o name apos) (e :: args) [] pos) c.env = (do
   let ov ← eval o c.env
   standAt apos.atName
   let (f,first) ← holding [ov] (getMethod ov name pl)
   callWith pos f first (backTo pos (starEach (e :: args) c.env)) []) := by exact ⟨_,rfl⟩)
  (hst : starEach (e :: args) c.env = (false,eval e c.env) :: starEach args c.env := by rfl) (hplain : ∀ pos,(backTo pos (starEach args c.env)).any (·.1) = false := by intro _;rfl) :
  XE c I ρ (.Call (.Attribute o name apos) (e :: args) [] pos) d I' := fun s S => by
 obtain ⟨pl,he⟩ := he
 refine MethodCall_ (pl := pl) (fin (ho s S) fun ov s1 q => ?_) he
 rw [rval q.2]
 have S1 := S.ext q.1
 refine meth_get ok S1 hI hat hg hf ht (callWith_K (h₀ := c.hb) ok.gr.X hk (fin (ha pos s1 S1) fun vs s2 y => ⟨(S1.ext y.1).kin ok,?_⟩) hst (hplain pos))
 exact meth_go ok hm sp q.1 S1 vs s2 y.1 y.2
end
end
section
open Builtin Builtin.ObjectAttr Builtin.Getset_descriptor
theorem kind_lga : builtinKind "list.__getattribute__" = some .slot := by decide +kernel
theorem split_lga : splitId "list.__getattribute__" = some ("list","__getattribute__") := by decide +kernel
section
variable {w : World} {A : Around} {E : Value -> Shared -> Prop} {s : Shared} {K : Frag} {x C : Addr} {ox : Obj} {od : Option Obj} {name : Str} {expr : Bool}
theorem get_valueL {v : Value} {Q : Value -> Shared -> Prop} (X : K.In s.heap) (I : InstAt s.heap x ox C od) (hga : findIn K (.ref C) "__getattribute__" = some (some (.builtin "list.__getattribute__"))) (hk : findIn K (.ref C) "__getattr__" = some none)
  (hin : mroIn K C (.type "list") = some true) (hf : findObj K C od name = some (.value v)) (hh : handedIn v = true) (h : Q v { s with toks := s.toks + 1 }) : wpAny (model PR w) A (getAttr (.ref x) name expr) Q NoE s := by
 obtain ⟨hh',g,d,t,os⟩ := s
 have L0 := I.type (M := model PR w)
 have L1 := looks_findIn (M := model PR w) X hga
 have L2 := looks_findIn (M := model PR w) X hk
 have L3 := looks_find (M := model PR w) X I hf
 have L4 : Looks (model PR w) hh' (isInstance (.ref x) (.type "list")) true := L0.andThen (looks_mroIn X hin)
 unfold getAttr getAttrBy
 refine wpAny_bind (wpAny_mkText (wpAny_holding (wpAny_bind (L0.at (wpAny_bind (L1.at ?_))))))
 show wpAny _ _ (getAttrByItsOwn (.ref x) (.str name t) (.ref C) (.builtin "list.__getattribute__") true expr) _ _ _
 unfold getAttrByItsOwn hookBefore callGetattribute boundAndCalled
 refine wpAny_bind ?_
 show wpAny _ _ (typeLookup (.ref C) "__getattr__") _ _ _
 refine L2.at ?_
 refine wpAny_bind (wpAny_attempt (wpAny_holding ?_))
 have e1 : (expr && onTheHeap (.builtin "list.__getattribute__")) = false := by cases expr <;> rfl
 rw [e1]
 simp only [Bool.false_eq_true,if_false]
 refine wpAny_bind (wpAny_of_eq (F.slot_list_getattribute.bind (.ref x)) ?_)
 refine wpAny_call (codeAny_call_builtin F.slot_list_getattribute.plain F.entry_list_ga (@check_slot (model PR w) _ _ _ "list.__getattribute__" "list" "__getattribute__" (.ref x) [.str name t] [] _ kind_lga split_lga L4 (F.args_list_getattribute_2 _ _) ?_))
 refine wpAny_bind (wpAny_pure (wpAny_bind (wpAny_pure (wpAny_bind (L0.at (wpAny_bind (L3.at ?_)))))))
 refine wpAny_pure ?_
 show wpAny _ _ (handedOut v) _ _ _
 rw [handedOut_of hh];exact wpAny_pure h
theorem method_anyL {ga : String} {f : Value} {tf : Value} {pl : Sem Bool} {Q : Value × List Value -> Shared -> Prop} (X : K.In s.heap) (I : InstAt s.heap x ox C od) (hga : findIn K (.ref C) "__getattribute__" = some (some (.builtin ga))) (hcan : (Manifest.canonical ga != "object.__getattribute__") = false)
  (hk : findIn K (.ref C) "__getattr__" = some none) (hf : findIn K (.ref C) name = some (some f)) (ht : typeIn K f = some tf) (htf : (tf != .type "function" && tf != .type "method_descriptor" && tf != .type "wrapper_descriptor") = false)
  (hs : shadowIn od name = some false) (h : Q (f,[.ref x]) s) : wpAny (model PR w) A (getMethod (.ref x) name pl) Q E s := by
 revert w A E s K x C ox od name ga f tf pl Q;intros w A E s K x C ox od name ga f tf pl Q X I hga hcan hk hf ht htf hs h
 unfold getMethod specialOf
 refine wpAny_bind (wpAny_bind (I.type.here ((looks_findIn X hga).here ?_)))
 dsimp only
 rw [hcan,if_neg (by decide)]
 refine wpAny_bind (wpAny_bind (I.type.here ((looks_findIn X hk).here ?_)))
 refine wpAny_bind (wpAny_bind (I.type.here ((looks_findIn X hf).here (wpAny_bind ((looks_typeIn X ht).here ?_)))))
 rw [htf,if_neg (by decide)]
 refine wpAny_bind (wpAny_loadPart I.at_ ?_)
 have hd := I.dict
 cases e : ox.dict with
 | none => exact wpAny_bind (wpAny_rule (wpAny_pure h))
 | some dx =>
  cases od with
  | none => rw [e] at hd;exact hd.elim
  | some o =>
   rw [e] at hd
   obtain @⟨r,a,b⟩ := Option.map_eq_some_iff.mp hs
   refine wpAny_bind (wpAny_bind (wpAny_loadPart hd ?_))
   rw [nsLook_of a]
   refine wpAny_pure ?_
   rw [b]
   exact wpAny_bind (wpAny_rule (wpAny_pure h))
end
end
section
noncomputable def SetOk (K : Frag) (C : Addr) : Prop := plainOver K C = true ∨ ∃ cd,clsIn K C = some cd ∧ cd.mro = [.ref C,.type "list",.type "object"]
theorem putL_len_in (x : Str) (hs : Int) (k v : Value) : ∀ es : List DictEntry,(es.find? (·.key.isStr x)).isSome = true -> (putL x hs k v es).length = es.length
 | [],h => by cases h
 | e :: r,h => by
  unfold putL
  split
  ·rfl
  ·rename_i hn
   rw [List.find?_cons] at h
   have : e.key.isStr x = false := by simpa using hn
   rw [this] at h
   simp [putL_len_in x hs k v r h]
noncomputable def kUp (at_ : List (Str × D)) (name : Str) (k : Nat) : Nat := if (at_.lookup name).isSome then k else k + 1
theorem InstD.put {W : List Addr} {h h' : Heap} {x dx C : Addr} {dat : Data} {at_ : List (Str × D)} {k : Nat} {es : List DictEntry} {n' : Nat} {name : Str} {hs : Int} {t : Tok} {v : Value} {d : D} (hx : x ≠ dx) (hdW : dx ∈ W) (sb : Heap.SameBut dx h h')
  (h1 : h.get? x = some ⟨.ref C,some dx,dat,#[]⟩) (h2 : h'.get? dx = some (dictOf (putL name hs (.str name t) v es) n')) (h3 : es.length ≤ k)
  (h4 : ∀ y,(at_.lookup y = none -> getL y es = some none) ∧ ∀ d,at_.lookup y = some d -> ∃ v,getL y es = some (some v) ∧ Rel W h d v ∧ handedIn v = true) (r : Rel W h d v) (hv : handedIn v = true) : InstD W h' x dx C dat ((name,d) :: at_) (kUp at_ name k) := by
 have mv : ∀ {d : D} {v : Value},Rel W h d v -> Rel W h' d v := fun z => z.move (V := [dx]) (fun b o nb e => sb.extBut b o (fun q => nb (q ▸ List.mem_singleton.mpr rfl)) e) fun b q => .inl (by rw [List.mem_singleton.mp q];exact hdW)
 have hlen : (putL name hs (.str name t) v es).length ≤ kUp at_ name k := by
  unfold kUp
  cases q : at_.lookup name with
  | none => exact Nat.le_trans (putL_length ..) (by simp;omega)
  | some d' =>
   obtain ⟨u,a,_⟩ := (h4 name).2 d' q
   rw [getL_eq] at a
   have hf : (es.find? (·.key.isStr name)).isSome = true := by
    cases z : es.find? (·.key.isStr name) with
    | some e => rfl
    | none => rw [z] at a;simp at a
   rw [putL_len_in _ _ _ _ _ hf]
   simpa using h3
 refine ⟨_,n',sb.extBut _ _ hx h1,h2,hlen,fun y => ?_⟩
 rw [List.lookup_cons]
 cases q : y == name with
 | true =>
  have q' : y = name := by simpa using q
  subst q'
  exact ⟨(fun z => by cases z),fun d' e => by cases e;exact ⟨v,getL_put_self ..,mv r,hv⟩⟩
 | false =>
  have q' : y ≠ name := by simpa using q
  refine ⟨fun e => (getL_put_other q' ..).trans ((h4 y).1 e),fun d' e => ?_⟩
  obtain ⟨u,a,b,c⟩ := (h4 y).2 d' e
  exact ⟨u,(getL_put_other q' ..).trans a,mv b,c⟩
section
variable {c : Cx} {I I' : Asr c.W} {ρ : List (Str × D)} {n : Nat} {s0 : Shared} {Q : Flow -> Shared -> Prop} {rest : List Stmt} {x dx C : Addr} {k : Nat} {at_ : List (Str × D)}
noncomputable def setR (c : Cx) (I' : Asr c.W) (ρ : List (Str × D)) (dx : Addr) (s : Shared) : Result -> Shared -> Prop := fun r s' => match r with | .ok (.ret _) => Ext [dx] s s' ∧ Sta c I' ρ s' | .ok _ => False | .error e => NoE e s'
theorem set_attr {name : Str} {d : D} {v : Value} {s : Shared} (ok : c.Ok n) (S : Sta c I ρ s) (r : Rel c.W s.heap d v) (hv : handedIn v = true) (hI : HasI I x dx C at_ k) (hdU : dx ∈ c.U) (hx : x ≠ dx) (hk : k ≤ 900)
  (hs : findIn (hd.heap_1 c.w.params) (.ref C) "__setattr__" = some (some (.builtin "object.__setattr__"))) (ho : SetOk (hd.heap_1 c.w.params) C) (ht : takerIn (hd.heap_1 c.w.params) C name = some none) (hh : hasDictIn (hd.heap_1 c.w.params) C = true)
  (up : ∀ h h',I.P h -> Heap.SameBut dx h h' -> (∃ o,h'.get? dx = some o) -> (∀ dat,InstD c.W h x dx C dat at_ k -> (∀ cd,dat ≠ .cls cd) -> InstD c.W h' x dx C dat ((name,d) :: at_) (kUp at_ name k)) -> I'.P h') :
  wpAny c.M c.A (setAttr (.ref x) name v) (fun _ s' => Ext [dx] s s' ∧ Sta c I' ρ s') NoE s := by
 obtain ⟨dat,hc,J0⟩ := hI _ S.asr
 obtain ⟨es,m,h1,h2,h3,h4⟩ := J0
 have J : InstAt s.heap x ⟨.ref C,some dx,dat,#[]⟩ C (some (dictOf es m)) := ⟨h1,rfl,by cases dat <;> first | rfl | exact absurd rfl (hc _),h2⟩
 have hl : (lookIn name (dictOf es m)).isSome = true := by
  rw [lookIn_dict]
  cases q : at_.lookup name with
  | none => rw [(h4 name).1 q];rfl
  | some d' => obtain ⟨u,a,_⟩ := (h4 name).2 d' q;rw [a];rfl
 have X : (hd.heap_1 c.w.params).In s.heap := S.kin ok
 refine set_plain (X := X) J hs ?_
 show codeAny _ _ _ (setR c I' ρ dx s) _
 have fin' : ∀ b,wpAny c.M c.A.in1 (Builtin.ObjectAttr.storeInOwnDict (.ref x) (.ref C) (.str name s.toks) name v b)
   (fun fin s' => match fin with | .done f => setR c I' ρ dx s (.ok f) s' | .again c' => c'.quiet = true ∧ codeAny c.M c.A c' (setR c I' ρ dx s) s')
   (fun e s' => setR c I' ρ dx s (.error e) s') { s with toks := s.toks + 1 } := fun b => by
  refine own_store (R := setR c I' ρ dx s) (s := { s with toks := s.toks + 1 }) X J rfl hh hl (putName_dict ..) rfl (Nat.le_trans (putL_length ..) (by omega)) fun h' sb eo => ?_
  have e1 : Ext [dx] s { s with heap := h',toks := s.toks + 1 + 1 } := ext1 (t := s.toks + 1 + 1) sb.extBut
  have hin : ∀ b ∈ [dx],b ∈ c.U := fun b q => by rw [List.mem_singleton.mp q];exact hdU
  refine ⟨e1,S.upd ok e1 hin (fun b q => by rw [List.mem_singleton.mp q];exact ⟨_,eo⟩) (up s.heap h' S.asr sb ⟨_,eo⟩ fun dat' J' hc' => ?_)⟩
  obtain ⟨es',m',g1,g2,g3,g4⟩ := J'
  have g2' := g2
  rw [h2] at g2
  cases g2
  exact InstD.put hx (ok.sub _ hdU) sb g1 eo g3 g4 r hv
 rcases ho with ho | ⟨cd,hcd,hm⟩
 ·exact osa_open (s := { s with toks := s.toks + 1 }) X J ho ht fin'
 ·exact osa_openL (s := { s with toks := s.toks + 1 }) X J hcd hm ht fin'
theorem JS.setattr {o e : Expr} {name : Str} {apos pos : Pos} {d : D} (ok : c.Ok n) (he : JE c I ρ e d) (hnb : ∀ id,d ≠ .val (.builtin id)) (ho' : JE c I ρ o (.val (.ref x))) (hI : HasI I x dx C at_ k) (hdU : dx ∈ c.U) (hx : x ≠ dx) (hk : k ≤ 900)
  (hs : findIn (hd.heap_1 c.w.params) (.ref C) "__setattr__" = some (some (.builtin "object.__setattr__"))) (ho : SetOk (hd.heap_1 c.w.params) C) (ht : takerIn (hd.heap_1 c.w.params) C name = some none) (hh : hasDictIn (hd.heap_1 c.w.params) C = true)
  (up : ∀ h h',I.P h -> Heap.SameBut dx h h' -> (∃ o,h'.get? dx = some o) -> (∀ dat,InstD c.W h x dx C dat at_ k -> (∀ cd,dat ≠ .cls cd) -> InstD c.W h' x dx C dat ((name,d) :: at_) (kUp at_ name k)) -> I'.P h')
  (kk : JP c (Sto c I' s0 ρ) rest Q) (hsw : swapsWith e (some (.Attribute o name apos)) pos.line c.env = pure false := by rfl) :
  JP c (Sto c I s0 ρ) (.Assign [.Attribute o name apos] e pos :: rest) Q := JP.step fun s S => by
 refine plainObj_wpAny_Assign_Attribute (fin (he s S.sta) fun v s1 q => fin (ho' s1 (S.sta.ext q.1)) fun ov s2 q2 => ?_) hsw
 have S2 := (S.ext0 q.1).ext0 q2.1
 rw [rval q2.2]
 have r := q.2.ext q2.1
 have hv : handedIn v = true := by
  cases d with
  | int i => obtain ⟨t,rfl⟩ := rint r;rfl
  | str y => obtain ⟨t,rfl⟩ := rstr r;rfl
  | bool b => rw [rbool r];rfl
  | non => rw [rnon r];rfl
  | tup l => obtain ⟨a,vs,rfl,_⟩ := rtup r;rfl
  | lst l => obtain ⟨a,vs,rfl,_⟩ := rlst r;rfl
  | val u => rw [rval r];cases u <;> first | rfl | exact absurd rfl (hnb _)
 refine fin (set_attr ok S2.sta r hv hI hdU hx hk hs ho ht hh up) fun _ s3 z => ?_
 exact kk s3 ⟨S2.ext.trans (z.1.mono fun b q => by rw [List.mem_singleton.mp q];exact u_sub dx hdU),z.2⟩
end
end
section
section
variable {w : World} {A : Around} {E : Value -> Shared -> Prop} {s : Shared} {K : Frag} {x C : Addr} {ox : Obj} {od : Option Obj}
theorem check_meth {i owner n : String} {self : Value} {rest : List Value} {kw : List (Str × Value)} {Q : Unit -> Shared -> Prop}
  (hk : builtinKind i = some .slot ∨ builtinKind i = some .method) (hs : splitId i = some (owner,n)) (hi : Looks (model PR w) s.heap (isInstance self (.type owner)) true) (ha : argsOk i ⟨self :: rest,kw⟩) (q : Q () s) :
  wpAny (model PR w) A (checkBuiltinCall i ⟨self :: rest,kw⟩) Q E s := by
 revert w A E s i owner n self rest kw Q;intros w A E s i owner n self rest kw Q hk hs hi ha q
 rcases hk with hk | hk
 ·exact check_slot hk hs hi ha q
 ·simp only [checkBuiltinCall,hk,hs]
  refine wpAny_bind (hi.here ?_)
  simp only [Bool.not_true,Bool.false_eq_true,if_false]
  cases hsig : Manifest.signature? i with
  | none => exact wpAny_pure q
  | some sig =>
   simp only [argsOk,hsig] at ha
   have h2 : Bind.checkArgs i sig ⟨self :: rest,kw⟩ = pure () := ha
   show wpAny _ A (Bind.checkArgs i sig ⟨self :: rest,kw⟩) Q E s
   rw [h2];exact wpAny_pure q
theorem call_listslot {id n : String} {B : Builtin} {rest : List Value} {Q : Value -> Shared -> Prop} (X : K.In s.heap) (I : InstAt s.heap x ox C od) (hin : mroIn K C (.type "list") = some true) (plain : plainId id = true) (entry : entryFor table id = some B)
  (hk : builtinKind id = some .slot ∨ builtinKind id = some .method) (hs : splitId id = some ("list",n)) (ha : argsOk id ⟨.ref x :: rest,[]⟩) (h : wpAny (model PR w) A.in1 (B ⟨.ref x :: rest,[]⟩) (fun fin s' => ∃ v,fin = .done (.ret v) ∧ Q v s') E s) :
  wpAny (model PR w) A (call (.builtin id) (.ref x :: rest)) Q E s := by
 have L : Looks (model PR w) s.heap (isInstance (.ref x) (.type "list")) true := (I.type (M := model PR w)).andThen (looks_mroIn X hin)
 refine wpAny_call (codeAny_call_builtin plain entry (check_meth (rest := rest) (kw := []) hk hs L ha (wpAny_mono h (fun fin s' z => ?_) fun _ _ z => z)))
 obtain ⟨v,rfl,z⟩ := z
 exact z
theorem kind_lapp : builtinKind "list.append" = some .slot ∨ builtinKind "list.append" = some .method := by decide +kernel
theorem split_lapp : splitId "list.append" = some ("list","append") := by decide +kernel
theorem kind_lget : builtinKind "list.__getitem__" = some .slot ∨ builtinKind "list.__getitem__" = some .method := by decide +kernel
theorem split_lget : splitId "list.__getitem__" = some ("list","__getitem__") := by decide +kernel
theorem kind_lset : builtinKind "list.__setitem__" = some .slot ∨ builtinKind "list.__setitem__" = some .method := by decide +kernel
theorem split_lset : splitId "list.__setitem__" = some ("list","__setitem__") := by decide +kernel
theorem kind_liter : builtinKind "list.__iter__" = some .slot ∨ builtinKind "list.__iter__" = some .method := by decide +kernel
theorem split_liter : splitId "list.__iter__" = some ("list","__iter__") := by decide +kernel
theorem mapSeq_pushL (C dx : Addr) (its : Array Value) (n : Nat) (x : Value) :
  Obj.mapSeq (·.push x) { cls := .ref C,dict := some dx,data := .seq its n,slots := #[] } = { cls := .ref C,dict := some dx,data := .seq (its.push x) (n + 1),slots := #[] } := by
 simp [Obj.mapSeq]
theorem append_L {dx : Addr} {its : Array Value} {n : Nat} {v : Value} {Q : Value -> Shared -> Prop} (X : K.In s.heap) (I : InstAt s.heap x ⟨.ref C,some dx,.seq its n,#[]⟩ C od) (hin : mroIn K C (.type "list") = some true) (hz : its.size ≤ sizeLine)
  (h : ∀ h',Heap.SameBut x s.heap h' -> h'.get? x = some ⟨.ref C,some dx,.seq (its.push v) (n + 1),#[]⟩ -> Q .none { s with heap := h' }) :
  wpAny (model PR w) A (call (.builtin "list.append") [.ref x,v]) Q E s := by
 refine call_listslot X I hin slot_list_append.plain entry_list_append kind_lapp split_lapp (args_list_append _ _) ?_
 show wpAny _ _ (updateSeq x (·.push v) >>= fun _ => ret .none) _ _ s
 refine wpAny_bind ?_
 refine wpAny_updateSeq I.at_ rfl (wpAny_pure ⟨.none,rfl,h _ (Heap.SameBut.update ..) ?_⟩)
 rw [Heap.get?_update_self _ I.at_ (by rw [mapSeq_pushL];rfl),mapSeq_pushL]
end
end
section
structure OverList (K : Frag) (C : Addr) : Prop where
 ga : findIn K (.ref C) "__getattribute__" = some (some (.builtin "list.__getattribute__"))
 hk : findIn K (.ref C) "__getattr__" = some none
 ml : mroIn K C (.type "list") = some true
 hd : hasDictIn K C = true
theorem canon_lga : (Manifest.canonical "list.__getattribute__" != "object.__getattribute__") = false := by decide +kernel
section
variable {c : Cx} {I I' : Asr c.W} {ρ : List (Str × D)} {n : Nat} {s0 : Shared} {Q : Flow -> Shared -> Prop} {rest : List Stmt} {x dx C : Addr} {k : Nat} {at_ : List (Str × D)}
theorem JE.attrL {o : Expr} {name : Str} {apos : Pos} {d : D} {attr : Option Value} (ok : c.Ok n) (ho : JE c I ρ o (.val (.ref x))) (hI : HasI I x dx C at_ k) (hat : at_.lookup name = some d)
  (OL : OverList (hd.heap_1 c.w.params) C) (ha : findIn (hd.heap_1 c.w.params) (.ref C) name = some attr) (hn : noGet (hd.heap_1 c.w.params) attr = true)
  (he : eval (.Attribute o name apos) c.env = (do
   let ov ← eval o c.env
   standAt apos.atName
   let r ← holding [ov] (getAttr ov name true)
   letTemporaryGo o ov r
   pure r) := by with_unfolding_all rfl) : JE c I ρ (.Attribute o name apos) d := fun s S => by
 refine Attribute_any_ (fin (ho s S) fun ov s1 q => ?_) he
 rw [rval q.2]
 have S1 := S.ext q.1
 obtain ⟨dat,hc,J⟩ := hI _ S1.asr
 obtain ⟨es,m,J,_,hl⟩ := J.inst hc
 obtain ⟨v,h1,h2,h3⟩ := (hl name).2 d hat
 exact get_valueL (S1.kin ok) J OL.ga OL.hk OL.ml (findObj_own OL.hd ha hn ((lookIn_dict _ _ _).trans h1)) h3 ⟨q.1.trans (Ext.tok _ _ _),h2⟩
theorem meth_getL {name : Str} {f tf : Value} {pl : Sem Bool} {s1 : Shared} {Q : Value × List Value -> Shared -> Prop} (ok : c.Ok n) (S1 : Sta c I ρ s1) (hI : HasI I x dx C at_ k) (hat : at_.lookup name = none)
  (OL : OverList (hd.heap_1 c.w.params) C) (hf : findIn (hd.heap_1 c.w.params) (.ref C) name = some (some f)) (ht : typeIn (hd.heap_1 c.w.params) f = some tf) (htf : (tf != .type "function" && tf != .type "method_descriptor" && tf != .type "wrapper_descriptor") = false) (h : Q (f,[.ref x]) s1) :
  wpAny c.M c.A (getMethod (.ref x) name pl) Q NoE s1 := by
 obtain ⟨dat,hc,J⟩ := hI _ S1.asr
 obtain ⟨es,k',J,_,hl⟩ := J.inst hc
 have h1 := (hl name).1 hat
 exact method_anyL (S1.kin ok) J OL.ga canon_lga OL.hk hf ht htf (by show (lookIn name (dictOf es k')).map _ = _;rw [lookIn_dict,h1];rfl) h
theorem XE.methL0 {o : Expr} {name : Str} {apos pos : Pos} {d : D} {f : Addr} {m : Nat} (ok : c.Ok n) (hm : m ≤ n) (ho : JE c I ρ o (.val (.ref x))) (hI : HasI I x dx C at_ k) (hat : at_.lookup name = none)
  (OL : OverList (hd.heap_1 c.w.params) C) (hf : findIn (hd.heap_1 c.w.params) (.ref C) name = some (some (.ref f))) (ht : isFn (hd.heap_1 c.w.params) (.ref f) = true) (hk : keepIn (hd.heap_1 c.w.params) (.ref f) = true)
  (sp : SpecX c.w c.hb c.W c.U m f I [.val (.ref x)] d I')
  (he : ∃ pl,eval (.Call (.Attribute o name apos) [] [] pos) c.env = (do
   let ov ← eval o c.env
   standAt apos.atName
   let (f,first) ← holding [ov] (getMethod ov name pl)
   callWith pos f first (backTo pos (starEach [] c.env)) []) := by exact ⟨_,rfl⟩) :
  XE c I ρ (.Call (.Attribute o name apos) [] [] pos) d I' := fun s S => by
 obtain ⟨pl,he⟩ := he
 refine MethodCall_ (pl := pl) (fin (ho s S) fun ov s1 q => ?_) he
 rw [rval q.2]
 have S1 := S.ext q.1
 refine meth_getL ok S1 hI hat OL hf (beq_iff_eq.mp ht) (by decide +kernel) (callWith_K0 (S1.kin ok) hk ?_)
 exact meth_go ok hm sp q.1 S1 [] s1 (Ext.refl _ _) (by unfold Rels;rfl)
theorem XE.methL {o e : Expr} {name : Str} {apos pos : Pos} {args : List Expr} {ds : List D} {d : D} {f : Addr} {m : Nat} (ok : c.Ok n) (hm : m ≤ n) (ho : JE c I ρ o (.val (.ref x))) (hI : HasI I x dx C at_ k) (hat : at_.lookup name = none)
  (OL : OverList (hd.heap_1 c.w.params) C) (hf : findIn (hd.heap_1 c.w.params) (.ref C) name = some (some (.ref f))) (ht : isFn (hd.heap_1 c.w.params) (.ref f) = true) (hk : keepIn (hd.heap_1 c.w.params) (.ref f) = true)
  (ha : JEs c I ρ (e :: args) ds) (sp : SpecX c.w c.hb c.W c.U m f I (.val (.ref x) :: ds) d I')
  (he : ∃ pl,eval (.Call (.Attribute o name apos) (e :: args) [] pos) c.env = (do
   let ov ← eval o c.env
   standAt apos.atName
   let (f,first) ← holding [ov] (getMethod ov name pl)
   callWith pos f first (backTo pos (starEach (e :: args) c.env)) []) := by exact ⟨_,rfl⟩)
  (hst : starEach (e :: args) c.env = (false,eval e c.env) :: starEach args c.env := by rfl) (hplain : ∀ pos,(backTo pos (starEach args c.env)).any (·.1) = false := by intro _;rfl) :
  XE c I ρ (.Call (.Attribute o name apos) (e :: args) [] pos) d I' := fun s S => by
 obtain ⟨pl,he⟩ := he
 refine MethodCall_ (pl := pl) (fin (ho s S) fun ov s1 q => ?_) he
 rw [rval q.2]
 have S1 := S.ext q.1
 refine meth_getL ok S1 hI hat OL hf (beq_iff_eq.mp ht) (by decide +kernel) (callWith_K (h₀ := c.hb) ok.gr.X hk (fin (ha pos s1 S1) fun vs s2 y => ⟨(S1.ext y.1).kin ok,?_⟩) hst (hplain pos))
 exact meth_go ok hm sp q.1 S1 vs s2 y.1 y.2
theorem XE.appendL {o e : Expr} {apos pos : Pos} {d : D} (ok : c.Ok n) (hU : x ∈ c.U) (ho : JE c I ρ o (.val (.ref x))) (hI : HasI I x dx C at_ k) (hat : at_.lookup (ofString "append") = none)
  (OL : OverList (hd.heap_1 c.w.params) C) (hf : findIn (hd.heap_1 c.w.params) (.ref C) (ofString "append") = some (some (.builtin "list.append"))) (ht : typeIn (hd.heap_1 c.w.params) (.builtin "list.append") = some (.type "method_descriptor")) (he : JE c I ρ e d)
  (hdat : ∀ h,I.P h -> ∃ its m,h.get? x = some ⟨.ref C,some dx,.seq its m,#[]⟩ ∧ its.size ≤ 100000)
  (up : ∀ h h' its m v,I.P h -> Heap.SameBut x h h' -> h.get? x = some ⟨.ref C,some dx,.seq its m,#[]⟩ -> h'.get? x = some ⟨.ref C,some dx,.seq (its.push v) (m + 1),#[]⟩ -> Rel c.W h d v -> I'.P h')
  (hm : ∃ pl,eval (.Call (.Attribute o (ofString "append") apos) [e] [] pos) c.env = (do
   let ov ← eval o c.env
   standAt apos.atName
   let (f,first) ← holding [ov] (getMethod ov (ofString "append") pl)
   callWith pos f first (backTo pos (starEach [e] c.env)) []) := by exact ⟨_,rfl⟩)
  (hst : starEach [e] c.env = (false,eval e c.env) :: starEach [] c.env := by rfl) : XE c I ρ (.Call (.Attribute o (ofString "append") apos) [e] [] pos) .non I' := fun s S => by
 obtain ⟨pl,hm⟩ := hm
 refine MethodCall_ (pl := pl) (fin (ho s S) fun ov s1 q => ?_) hm
 rw [rval q.2]
 have S1 := S.ext q.1
 refine meth_getL ok S1 hI hat OL hf ht (by decide +kernel) (callWith_method1 (fin (JEs.cons he JEs.nil hst pos s1 S1) fun vs s2 y => ?_) hst)
 have r := y.2
 refine rels1 r ?_;clear r;intro v r1
 have S2 := S1.ext y.1
 obtain ⟨its,m,eo,hz⟩ := hdat _ S2.asr
 obtain ⟨dat,hc,J⟩ := hI _ S2.asr
 obtain ⟨es,k',h1,h2,h3,h4⟩ := J
 have I2 : InstAt s2.heap x ⟨.ref C,some dx,.seq its m,#[]⟩ C (some (dictOf es k')) := ⟨eo,rfl,rfl,h2⟩
 refine append_L (S2.kin ok) I2 OL.ml (by rw [sizeLine_eq];omega) fun h' sb eo' => ?_
 have e3 : Ext [x] s2 { s2 with heap := h' } := ext1 (t := s2.toks) sb.extBut
 have hin : ∀ b ∈ [x],b ∈ c.U := fun b q => by rw [List.mem_singleton.mp q];exact hU
 exact ⟨(q.1.trans y.1).nil.trans (e3.mono hin),mnon,S2.upd ok e3 hin (fun b q => by rw [List.mem_singleton.mp q];exact ⟨_,eo'⟩) (up _ _ its m v S2.asr sb eo eo' r1)⟩
end
end
noncomputable def ClosOk (K : Frag) (cl : List (Str × Addr)) : Prop := ∀ n a,(n,a) ∈ cl -> ∃ oc od v sl,K.lookup a = some ⟨oc,od,.cell v,sl⟩
noncomputable def RQF (c : Cx) (s0 : Shared) (d : D) (I' : Asr c.W) : Flow -> Shared -> Prop := fun f s' => RQX c s0 d I' f s' ∧ c.hb.StaysIn s'.heap
theorem spec_enterF {m : Nat} {f : Addr} {d : D} {ρ : List (Str × D)} {w : World} {hb : Heap} {W U : List Addr} {I I' : Asr W} {A : Around} {s : Shared} {vs : List Value} {binds : List (Str × Value)} {cl : List (Str × Addr)}
  {name qual : Str} {params : Arguments} {body : List Stmt} {scope : Scope} {dV kV doc pm cdv ct oc : Value} {an od : Option Addr} {osl : Array (Option Value)}
  (g : Amb w hb W U) (room : Room A (m + 1)) (hst : hb.StaysIn s.heap) (hsz : hb.objs.size ≤ s.heap.objs.size) (hW : WIn W s.heap) (hI : I.P s.heap)
  (ho : (hd.heap_1 w.params).lookup f = some ⟨oc,od,.func (fnX name qual params body scope cl dV kV doc pm an cdv ct),osl⟩) (hcd : codeIn (hd.heap_1 w.params) cdv qual = true)
  (hbind : bindArgs (fnX name qual params body scope cl dV kV doc pm an cdv ct) ⟨vs,[]⟩ = pure binds) (hρ : ∀ x d,ρ.lookup x = some d -> (∃ v,binds.reverse.lookup x = some v ∧ Rel W s.heap d v ∧ scope.names.lookup x = some .local) ∨
   (scope.names.lookup x = some .free ∧ (x == ("__classdict__" : Str)) = false ∧ ∃ a v,cl.lookup x = some a ∧ s.heap.IsCell a (some v) ∧ Rel W s.heap d v))
  (hloc : ∀ x ∈ binds,scope.names.lookup x.1 = some .local) (hcl : ClosOk (hd.heap_1 w.params) cl) (hap : cl.Pairwise fun x y => x.2 ≠ y.2) (hcell : ∀ x ∈ scope.names,x.2 ≠ .cell)
  (h : ∀ (A' : Around) (env : Env) (s0 : Shared) (L : Addr),env = envX qual scope L f cdv cl -> (Cx.mk w hb W U A' env).Ok m -> ∀ s,Sto (Cx.mk w hb W U A' env) I s0 ρ s ->
   _root_.PySem.wpAt (model PR w) A' (.func body env) (execs body env) (RQF (Cx.mk w hb W U A' env) s0 d I') NoE s)
  (hco : scope.isCoroutine = false) (hgen : scope.isGenerator = false) (hk : scope.kind = .function) :
  wpAny (model PR w) A (call (.ref f) vs) (fun v s' => Ext U s s' ∧ Rel W s'.heap d v ∧ WIn W s'.heap ∧ I'.P s'.heap) NoE s := by
 obtain ⟨p,loose,mg,mb,T⟩ := g.g.T
 have X : (hd.heap_1 w.params).In s.heap := fun a o e => hst a o (g.g.X a o e)
 refine wpAny_call ?_
 refine ks_codeAny_call_defAt (fd := fnX name qual params body scope cl dV kV doc pm an cdv ct) (body := body) (binds := binds) (by have := room.dp;simp only [recursionLimit];omega) (X _ _ ho) rfl (T.nolimit.keeps hst) (codeRec_of (K := hd.heap_1 w.params) X hcd) rfl (BindsTo.of_eq hbind) hcell hloc (fun h0 hns hkp => ?_) hco hgen hk
 have henv : callEnv (fnX name qual params body scope cl dV kV doc pm an cdv ct) s.heap.objs.size f = envX qual scope s.heap.objs.size f cdv cl := rfl
 rw [henv]
 have e0 : Ext [] s { s with heap := h0,toks := s.toks + binds.length } := ⟨fun b o _ => hkp b o,rfl,fun x => x⟩
 have hLn : s.heap.get? s.heap.objs.size = none := by
  cases q : s.heap.get? s.heap.objs.size with
  | none => rfl
  | some o => exact absurd (Heap.lt_size q) (Nat.lt_irrefl _)
 have hLW : s.heap.objs.size ∉ W := hW.fresh
 have cellAt : ∀ n a,(n,a) ∈ cl -> ∃ v,s.heap.IsCell a v := fun n a hm => by
  obtain ⟨c1,c2,v,c3,e⟩ := hcl n a hm
  exact ⟨v,_,X _ _ e,rfl⟩
 have cellW : ∀ n a,(n,a) ∈ cl -> a ∉ W := fun n a hm q => by
  obtain ⟨c1,c2,v,c3,e⟩ := hcl n a hm
  have := g.g.X _ _ e;rw [g.wh a q] at this;cases this
 have okc : Cx.Ok ⟨w,hb,W,U,A.deeper (envX qual scope s.heap.objs.size f cdv cl),envX qual scope s.heap.objs.size f cdv cl⟩ m := by
  refine ⟨g.g,⟨hk,hap,fun n a hm q => ?_,fun n a hm q => ?_,rfl,rfl⟩,⟨room.hh,?_,?_⟩,g.sub,g.wh⟩
  ·obtain ⟨v,o,eo,_⟩ := cellAt n a hm
   have q' : a = s.heap.objs.size := q
   rw [q',hLn] at eo;cases eo
  ·exact absurd rfl (hcell (n,.cell) (mem_of_lookup q))
  ·have := room.dp;simp only [Around.deeper];omega
  ·have := room.un;simp only [Around.deeper];omega
 have S0 : Sta ⟨w,hb,W,U,A.deeper (envX qual scope s.heap.objs.size f cdv cl),envX qual scope s.heap.objs.size f cdv cl⟩ I ρ { s with heap := h0,toks := s.toks + binds.length } := by
  refine ⟨⟨⟨_,⟨hns,fun b o e => hkp b o (hst b o e),hsz⟩,fun x d e => ?_⟩,fun n a hm => ⟨let ⟨v,y⟩ := cellAt n a hm;⟨v,isCell_move y (hkp a)⟩,cellW n a hm⟩,hLW⟩,hW.ext e0,I.st [] _ _ e0.keep (fun _ q => nomatch q) hI⟩
  rcases hρ x d e with ⟨v,h1,h2,h3⟩ | ⟨h1,h2,a,v,h3,h4,h5⟩
  ·exact .inl ⟨h3,v,h1,h2.ext e0⟩
  ·exact .inr ⟨.inr ⟨h1,h2⟩,a,v,h3,isCell_move h4 (hkp a),h5.ext e0⟩
 refine ks_wpAt_mono (h _ _ _ s.heap.objs.size rfl okc _ ⟨Ext.refl _ _,S0⟩) (fun fl s' r => ?_) fun _ _ z => z.elim
 obtain ⟨⟨v,hv,e,rr,hw,hi⟩,hs'⟩ := r
 have e2 : Ext U s s' := ⟨fun b o nb eb => ?_,e.os,e.gens⟩
 ·rcases hv with rfl | ⟨rfl,rfl⟩ <;> exact ⟨e2,rr,hw,hi⟩
 ·by_cases hb' : ∃ n,(n,b) ∈ cl
  ·obtain ⟨n,hm⟩ := hb'
   obtain ⟨c1,c2,v',c3,ek⟩ := hcl n b hm
   have h1 := X _ _ ek
   rw [eb] at h1;cases h1
   exact hs' _ _ (g.g.X _ _ ek)
  ·refine e.keep b o (fun q => ?_) (hkp b o eb)
   rcases List.mem_append.mp q with q | q
   ·exact nb q
   ·rcases List.mem_cons.mp q with q | q
    ·have q' : b = s.heap.objs.size := q
     rw [q',hLn] at eb;cases eb
    ·obtain ⟨⟨n,a⟩,hm,rfl⟩ := List.mem_map.mp q
     exact hb' ⟨n,hm⟩
section
noncomputable def TabP (h : Heap) (P : Addr) : Prop := ∃ ps,h.get? P = some (tabObj ps) ∧ TriplesOk ps.toList
structure FA where
 F : Addr
 dF : Addr
 L : Addr
 A : Addr
 dA : Addr
 maxlen : Int
 liked : Str
noncomputable abbrev fW (a : FA) : List Addr := [a.F,a.dF,a.L,a.A,a.dA,140,147]
structure FA.Ok (a : FA) : Prop where
 nd : (fW a).Nodup
structure FS where
 lines : List Str
 parts : List (Str × Str)
 init : Int
theorem neF : Nonempty FA := ⟨⟨0,0,0,0,0,0,default⟩⟩
theorem neG : Nonempty FS := ⟨⟨[],[],0⟩⟩
noncomputable def partD (p : Str × Str) : D := .tup [.str p.1,.str p.2]
noncomputable def AccP (W : List Addr) (A dA : Addr) (parts : List (Str × Str)) (init : Int) (h : Heap) : Prop :=
 ∃ vs m,h.get? A = some ⟨.ref 178,some dA,.seq (List.toArray vs) m,#[]⟩ ∧ Rels W h (parts.map partD) vs ∧ InstD W h A dA 178 (.seq (List.toArray vs) m) [(ofString "_initial_size",.int init)] 1
noncomputable def ForP (W : List Addr) (a : FA) (h : Heap) : Prop :=
 InstD W h a.F a.dF 94 .plain [(ofString "_current_line",.val (.ref a.A)),(ofString "_lines",.val (.ref a.L)),(ofString "_splitchars",.str a.liked),(ofString "_continuation_ws_len",.int 1),(ofString "_continuation_ws",.str (ofString " ")),(ofString "_maxlen",.int a.maxlen)] 6
noncomputable def LinP (W : List Addr) (L : Addr) (lines : List Str) (h : Heap) : Prop := ∃ vs m,h.get? L = some { cls := .type "list",data := .seq (List.toArray vs) m } ∧ Rels W h (lines.map .str) vs
noncomputable def fP (a : FA) (σ : FS) (h : Heap) : Prop := AccP (fW a) a.A a.dA σ.parts σ.init h ∧ ForP (fW a) a h ∧ LinP (fW a) a.L σ.lines h ∧ TabP h 140 ∧ TabP h 147
section
variable {W V : List Addr} {h h' : Heap}
theorem AccP.move {A dA : Addr} {parts : List (Str × Str)} {init : Int} (x : AccP W A dA parts init h) (k : ∀ b o,b ∉ V -> h.get? b = some o -> h'.get? b = some o) (hV : ∀ b ∈ V,b ∈ W ∨ NoSeq h b) (h1 : A ∉ V) (h2 : dA ∉ V) : AccP W A dA parts init h' := by
 obtain ⟨vs,m,a,b,c⟩ := x
 exact ⟨vs,m,k _ _ h1 a,b.move k hV,c.move h1 h2 hV k⟩
theorem LinP.move {L : Addr} {lines : List Str} (x : LinP W L lines h) (k : ∀ b o,b ∉ V -> h.get? b = some o -> h'.get? b = some o) (hV : ∀ b ∈ V,b ∈ W ∨ NoSeq h b) (h1 : L ∉ V) : LinP W L lines h' := by
 obtain ⟨vs,m,a,b⟩ := x
 exact ⟨vs,m,k _ _ h1 a,b.move k hV⟩
theorem TabP.move {P : Addr} (x : TabP h P) (k : ∀ b o,b ∉ V -> h.get? b = some o -> h'.get? b = some o) (h1 : P ∉ V) : TabP h' P := let ⟨ps,a,b⟩ := x;⟨ps,k _ _ h1 a,b⟩
end
noncomputable def fI (a : FA) (σ : FS) : Asr (fW a) where
 P := fP a σ
 st := fun V h h' k hV ⟨x1,x2,x3,x4,x5⟩ => by
  have off : ∀ p ∈ fW a,p ∉ V := fun p hp q => (hV p q).1 hp
  have hv : ∀ b ∈ V,b ∈ fW a ∨ NoSeq h b := fun b q => .inr (hV b q).2
  exact ⟨x1.move k hv (off _ (by simp)) (off _ (by simp)),x2.move (off _ (by simp)) (off _ (by simp)) hv k,x3.move k hv (off _ (by simp)),x4.move k (off _ (by simp)),x5.move k (off _ (by simp))⟩
end
local macro_rules | `(tactic| walk_at "ne") => `(tactic| exact neF)
local macro_rules | `(tactic| walk_at "ne") => `(tactic| exact neG)
theorem slot_md_get : Slot "method_descriptor" "__get__" "method_descriptor.__get__" := .of (owner := "method_descriptor") (n := "__get__") (by rw [typeLookup_type,builtinLookup_eq_fast];kernel_rfl) (by decide +kernel) (by decide +kernel) (by decide +kernel)
 (.inl (by decide +kernel)) (by rw [isSubtype_type];kernel_rfl)
theorem slot_wd_get : Slot "wrapper_descriptor" "__get__" "wrapper_descriptor.__get__" := .of (owner := "wrapper_descriptor") (n := "__get__") (by rw [typeLookup_type,builtinLookup_eq_fast];kernel_rfl) (by decide +kernel) (by decide +kernel) (by decide +kernel)
 (.inl (by decide +kernel)) (by rw [isSubtype_type];kernel_rfl)
theorem entry_md_get : entryFor table "method_descriptor.__get__" = some Builtin.«method_descriptor.__get__» := entryFor_of_tree (by kernel_rfl)
theorem entry_wd_get : entryFor table "wrapper_descriptor.__get__" = some Builtin.«wrapper_descriptor.__get__» := entryFor_of_tree (by kernel_rfl)
theorem args_md_get (a b c : Value) : argsOk "method_descriptor.__get__" ⟨[a,b,c],[]⟩ := by unfold argsOk;kernel_rfl
theorem args_wd_get (a b c : Value) : argsOk "wrapper_descriptor.__get__" ⟨[a,b,c],[]⟩ := by unfold argsOk;kernel_rfl
theorem type_lpop : typeOf (.builtin "list.pop") = pure (.type "method_descriptor") := by show builtinType _ = _;rw [builtinType_eq_fast];kernel_rfl
theorem type_llen : typeOf (.builtin "list.__len__") = pure (.type "wrapper_descriptor") := by show builtinType _ = _;rw [builtinType_eq_fast];kernel_rfl
theorem type_linit : typeOf (.builtin "list.__init__") = pure (.type "wrapper_descriptor") := by show builtinType _ = _;rw [builtinType_eq_fast];kernel_rfl
section
section
variable {w : World} {A : Around} {E : Value -> Shared -> Prop} {h : Heap} {g : Array GenState} {d : Drawn} {t : Nat} {os : OsState}
theorem bind_builtin {bt id : String} {B : Builtin} {getId owner n : String} {x : Addr} {C : Value} {T : String} {Q : Value -> Shared -> Prop} (hsl : Slot T "__get__" getId) (hen : entryFor table getId = some B) (hty : typeOf (.builtin id) = pure (.type T)) (har : ∀ a b c,argsOk getId ⟨[a,b,c],[]⟩)
  (hB : ∀ (A : Around) (Q : PySem.Fin -> Shared -> Prop),Q (.done (.ret (.ref h.objs.size))) ⟨h.push { cls := .type bt,data := .fields #[.builtin id,.ref x] },g,d,t,os⟩ -> wpAny (model PR w) A (B ⟨[.builtin id,.ref x,C],[]⟩) Q NoE ⟨h,g,d,t,os⟩)
  (hq : Q (.ref h.objs.size) ⟨h.push { cls := .type bt,data := .fields #[.builtin id,.ref x] },g,d,t,os⟩) :
  wpAny (model PR w) A (call (.builtin getId) [.builtin id,.ref x,C]) Q NoE ⟨h,g,d,t,os⟩ :=
 wpAny_call_entry hsl (T := T) (show (⟨h,g,d,t,os⟩ : Shared).TypeIs (.builtin id) T from hty) hen (hB _ _ ⟨_,rfl,hq⟩) (har _ _ _)
theorem lpop_get {x : Addr} {C : Value} {Q : PySem.Fin -> Shared -> Prop} (hi : Looks (model PR w) h (isInstance (.ref x) (.type "list")) true)
  (hC : C ≠ .none) (q : Q (.done (.ret (.ref h.objs.size))) ⟨h.push { cls := .type "builtin_function_or_method",data := .fields #[.builtin "list.pop",.ref x] },g,d,t,os⟩) :
  wpAny (model PR w) A (Builtin.«method_descriptor.__get__» ⟨[.builtin "list.pop",.ref x,C],[]⟩) Q NoE ⟨h,g,d,t,os⟩ := by
 unfold Builtin.«method_descriptor.__get__»
 have hc : (C == Value.none) = false := by simpa using hC
 have hname : ".".intercalate ("list.pop".cutAt '.').dropLast = "list" := by decide +kernel
 repeat (first | (simp only [hname]) | (with_reducible refine Looks.at hi ?_) | (simp only [hc,Bool.false_eq_true,if_false,Bool.not_true]) | wp_step | dsimp only)
 all_goals exact q
theorem llen_get {x : Addr} {C : Value} {Q : PySem.Fin -> Shared -> Prop} (hi : Looks (model PR w) h (isInstance (.ref x) (.type "list")) true)
  (hC : C ≠ .none) (q : Q (.done (.ret (.ref h.objs.size))) ⟨h.push { cls := .type "method-wrapper",data := .fields #[.builtin "list.__len__",.ref x] },g,d,t,os⟩) :
  wpAny (model PR w) A (Builtin.«wrapper_descriptor.__get__» ⟨[.builtin "list.__len__",.ref x,C],[]⟩) Q NoE ⟨h,g,d,t,os⟩ := by
 unfold Builtin.«wrapper_descriptor.__get__»
 have hc : (C == Value.none) = false := by simpa using hC
 have hname : ".".intercalate ("list.__len__".cutAt '.').dropLast = "list" := by decide +kernel
 repeat (first | (simp only [hname]) | (with_reducible refine Looks.at hi ?_) | (simp only [hc,Bool.false_eq_true,if_false,Bool.not_true]) | wp_step | dsimp only)
 all_goals exact q
theorem linit_get {x : Addr} {C : Value} {Q : PySem.Fin -> Shared -> Prop} (hi : Looks (model PR w) h (isInstance (.ref x) (.type "list")) true)
  (hC : C ≠ .none) (q : Q (.done (.ret (.ref h.objs.size))) ⟨h.push { cls := .type "method-wrapper",data := .fields #[.builtin "list.__init__",.ref x] },g,d,t,os⟩) :
  wpAny (model PR w) A (Builtin.«wrapper_descriptor.__get__» ⟨[.builtin "list.__init__",.ref x,C],[]⟩) Q NoE ⟨h,g,d,t,os⟩ := by
 unfold Builtin.«wrapper_descriptor.__get__»
 have hc : (C == Value.none) = false := by simpa using hC
 have hname : ".".intercalate ("list.__init__".cutAt '.').dropLast = "list" := by decide +kernel
 repeat (first | (simp only [hname]) | (with_reducible refine Looks.at hi ?_) | (simp only [hc,Bool.false_eq_true,if_false,Bool.not_true]) | wp_step | dsimp only)
 all_goals exact q
end
end
section
section
variable {w : World} {A : Around} {h : Heap} {g : Array GenState} {d : Drawn} {t : Nat} {os : OsState}
theorem super_gaB {so D x C : Addr} {l₀ l : List Value} {K : Frag} {name : Str} {tk : Tok} {id T getId : String} {h' : Heap} {q : Addr} {Q : PySem.Fin -> Shared -> Prop}
  (hso : h.get? so = some { cls := .type "super",dict := none,data := .fields #[.ref D,.ref x,.ref C],slots := #[] }) (hno : Looks (model PR w) h (opaqueClassAbove (.ref C)) none)
  (hC : Looks (model PR w) h (mroOf (.ref C)) l₀) (hl : (l₀.dropWhile (· != .ref D)).drop 1 = l) (X : K.In h)
  (hf : alongIn K name l = some (some (.builtin id))) (hty : typeOf (.builtin id) = pure (.type T)) (hlk : typeLookup (.type T) "__get__" = pure (some (.builtin getId))) (hxC : x ≠ C) (hn : (name == ("__class__" : Str)) = false)
  (hcall : ∀ (A : Around) (Q : Value -> Shared -> Prop),Q (.ref q) ⟨h',g,d,t,os⟩ -> wpAny (model PR w) A (call (.builtin getId) [.builtin id,.ref x,.ref C]) Q NoE ⟨h,g,d,t,os⟩)
  (hq : Q (.done (.ret (.ref q))) ⟨h',g,d,t,os⟩) :
  wpAny (model PR w) A (Builtin.«super.__getattribute__» ⟨[.ref so,.str name tk],[]⟩) Q NoE ⟨h,g,d,t,os⟩ := by
 revert w A h g d t os so D x C l₀ l K name tk id T getId h' q Q;intros w A h g d t os so D x C l₀ l K name tk id T getId h' q Q hso hno hC hl X hf hty hlk hxC hn hcall hq
 have hne : (Value.ref x == Value.ref C) = false := by simp [hxC]
 have hdt : ({ cls := .type "super",dict := none,data := .fields #[.ref D,.ref x,.ref C],slots := #[] } : Obj).data = .fields #[.ref D,.ref x,.ref C] := rfl
 have f0 : (#[.ref D,.ref x,.ref C] : Array Value)[0]? = some (.ref D) := rfl
 have f1 : (#[.ref D,.ref x,.ref C] : Array Value)[1]? = some (.ref x) := rfl
 have f2 : (#[.ref D,.ref x,.ref C] : Array Value)[2]? = some (.ref C) := rfl
 have hT : (⟨h,g,d,t,os⟩ : Shared).TypeIs (.builtin id) T := hty
 unfold Builtin.«super.__getattribute__»
 repeat (first
  | (with_reducible refine wpAny_field hso hdt f0 ?_) | (with_reducible refine wpAny_field hso hdt f1 ?_) | (with_reducible refine wpAny_field hso hdt f2 ?_)
  | (with_reducible refine ks_wpAny_notOpaque hno ?_)
  | (with_reducible refine Looks.at hC ?_;rw [hl])
  | (refine ks_forIn_along X (fun _ _ => rfl) rfl ?_ hf)
  | (with_reducible refine wpAny_typeOf hT ?_)
  | (with_reducible refine hcall _ _ ?_)
  | (with_reducible refine ⟨_,rfl,?_⟩)
  | (simp only [hn,hne,hty,hlk,Bool.or_false,Bool.false_eq_true,if_false])
  | wp_step
  | dsimp only)
 all_goals exact hq
end
end
section
section
variable {w : World} {A : Around} {h : Heap} {g : Array GenState} {d : Drawn} {t : Nat} {os : OsState}
theorem getMethod_superB {so D x C : Addr} {l₀ l : List Value} {K : Frag} {name : Str} {id T getId : String} {h' : Heap} {q : Addr} {pl : Sem Bool} {Q : Value × List Value -> Shared -> Prop}
  (hso : h.get? so = some { cls := .type "super",dict := none,data := .fields #[.ref D,.ref x,.ref C],slots := #[] }) (hno : Looks (model PR w) h (opaqueClassAbove (.ref C)) none)
  (hC : Looks (model PR w) h (mroOf (.ref C)) l₀) (hl : (l₀.dropWhile (· != .ref D)).drop 1 = l) (X : K.In h)
  (hf : alongIn K name l = some (some (.builtin id))) (hty : typeOf (.builtin id) = pure (.type T)) (hlk2 : typeLookup (.type T) "__get__" = pure (some (.builtin getId))) (hxC : x ≠ C) (hn : (name == ("__class__" : Str)) = false)
  (hcall : ∀ (A : Around) (Q : Value -> Shared -> Prop),Q (.ref q) ⟨h',g,d,t + 1,os⟩ -> wpAny (model PR w) A (call (.builtin getId) [.builtin id,.ref x,.ref C]) Q NoE ⟨h,g,d,t + 1,os⟩)
  (hq : Q (.ref q,[]) ⟨h',g,d,t + 1,os⟩) : wpAny (model PR w) A (getMethod (.ref so) name pl) Q NoE ⟨h,g,d,t,os⟩ := by
 have hlk := F.ks_slot_super_ga.lookup
 have hcan := F.ks_canon_super_ga
 have hT : ∀ t',(⟨h,g,d,t',os⟩ : Shared).TypeIs (.ref so) "super" := fun _ => ⟨_,hso,rfl⟩
 unfold getMethod
 refine wpAny_bind (wpAny_specialOf (hT _) hlk ?_)
 show wpAny _ _ (if (Manifest.canonical "super.__getattribute__" != "object.__getattribute__") = true then _ else _) _ _ _
 rw [if_pos hcan]
 unfold getAttr getAttrBy
 refine wpAny_bind (wpAny_bind (wpAny_mkText (wpAny_holding (wpAny_bind (wpAny_typeOf (hT _) (wpAny_bind (wpAny_of_eq hlk ?_)))))))
 show wpAny _ _ (getAttrByItsOwn (.ref so) (.str name t) (.type "super") (.builtin "super.__getattribute__") true false) _ _ _
 unfold getAttrByItsOwn hookBefore callGetattribute boundAndCalled
 refine wpAny_bind (wpAny_of_eq (show (if onTheHeap (.type "super") then typeLookup (.type "super") "__getattr__" else pure none) = pure none from rfl) ?_)
 refine wpAny_bind (wpAny_attempt (wpAny_holding ?_))
 show wpAny _ _ (bindSpecial (.builtin "super.__getattribute__") (.ref so) >>= _) _ _ _
 refine wpAny_bind (wpAny_of_eq (F.ks_slot_super_ga.bind _) ?_)
 refine wpAny_mono (Q := fun v s' => v = .ref q ∧ s' = ⟨h',g,d,t + 1,os⟩) (E := NoE)
  (wpAny_call_entry F.ks_slot_super_ga (hT _) F.ks_entry_super_ga (super_gaB hso hno hC hl X hf hty hlk2 hxC hn hcall ⟨_,rfl,rfl,rfl⟩) (F.ks_gaArgs_super _ _)) (fun v s' hv => ?_) fun _ _ z => z.elim
 obtain ⟨rfl,rfl⟩ := hv
 exact wpAny_pure (wpAny_pure hq)
end
end
section
section
variable {w : World} {A : Around} {s : Shared} {R : Result -> Shared -> Prop}
end
end
section
section
variable {c : Cx} {I I' : Asr c.W} {ρ : List (Str × D)} {n : Nat} {s0 : Shared} {x dx : Addr} {at_ : List (Str × D)} {k : Nat}
noncomputable abbrev superObj (D x C : Addr) : Obj := { cls := .type "super",dict := none,data := .fields #[.ref D,.ref x,.ref C],slots := #[] }
structure SupOk (c : Cx) (qual : Str) (scope : Scope) (L f cda : Addr) (sn : Str) : Prop where
 env : c.env = envX qual scope L f (.ref cda) [(ofString "__class__",102)]
 fn : ∃ oc od fd osl ar,(hd.heap_1 c.w.params).lookup f = some ⟨oc,od,.func fd,osl⟩ ∧ (fd.params.posonlyargs ++ fd.params.args).head? = some ar ∧ ar.arg = sn
 cd : ∃ ccl cdd vs ccs file tf,(hd.heap_1 c.w.params).lookup cda = some ⟨ccl,cdd,.fields vs,ccs⟩ ∧ vs[2]? = some (.str file tf) ∧ ((PR.main.file : Str) == file) = true
 ks : scope.names.lookup (ofString "super") = some .globalImplicit
 kc : scope.names.lookup (ofString "__class__") = some .free
 ka : scope.names.lookup sn = some .local
 hk : scope.kind = .function
theorem cell102 (P : Params) : ∃ cl cld csl,(hd.heap_1 P).lookup 102 = some ⟨cl,cld,.cell (some (.ref 178)),csl⟩ := ⟨_,_,_,by k_is⟩
theorem cls178 (P : Params) : ∃ cd,clsIn (hd.heap_1 P) 178 = some cd := ⟨_,by k_is⟩
theorem main_super : (PR.main.scope.names.lookup ("super" : Str)).isSome = false := by kernel_rfl
theorem super_node {body : List Stmt} {qual : Str} {scope : Scope} {L f cda : Addr} {sn : Str} {p0 p1 : Pos} {attr : Str} {whole : Sem Value} {Q : Value -> Shared -> Prop} {s : Shared} (ok : c.Ok n) (O : SupOk c qual scope L f cda sn) (S : Sta c I ρ s)
  (hρ : ρ.lookup sn = some (.val (.ref x))) (hI : HasI I x dx 178 at_ k) (hat : (attr == ("__class__" : Str)) = false)
  (h : ∀ so s',Ext [] s s' -> s'.heap.get? so = some (superObj 178 x 178) -> s.heap.get? so = none -> Q (.ref so) s') :
  _root_.PySem.wpAt c.M c.A (.func body c.env) (attributeBase (.Call (.Name "super" p0) [] [] p1) attr c.env whole) Q NoE s := by
 revert c I ρ n x dx at_ k body qual scope L f cda sn p0 p1 attr whole Q s;intros c I ρ n x dx at_ k body qual scope L f cda sn p0 p1 attr whole Q s ok O S hρ hI hat h
 obtain @⟨p,loose,mg,mb,T⟩ := ok.gr.T
 have X := S.kin ok
 obtain @⟨oc,od,fd,osl,ar,hf,hp,rfl⟩ := O.fn
 obtain @⟨ccl,cdd,vs,ccs,file,tf,hcode,hvs,hfile⟩ := O.cd
 obtain @⟨cl,cld,csl,hcell⟩ := cell102 c.w.params
 obtain @⟨cdD,hD⟩ := cls178 c.w.params
 obtain @⟨m,F,hv⟩ := S.loc.fr
 obtain @⟨dat,hc,J⟩ := hI _ S.asr
 obtain @⟨es,k',J,_,hl⟩ := J.inst hc
 have Fb := S.stays
 obtain @⟨hh,g,d,t,os⟩ := s
 obtain @⟨oD,hD1,hD2⟩ : ∃ oD,hh.get? 178 = some oD ∧ oD.data = .cls cdD := by
  unfold clsIn at hD
  split at hD
  ·rename_i ho
   cases hD
   exact ⟨_,X _ _ ho,rfl⟩
  ·cases hD
 have hmv : m ar.arg = some (.ref x) := by
  rcases hv _ _ hρ with ⟨_,v,h1,h2⟩ | ⟨q,_⟩
  ·unfold Rel at h2;rw [h1];exact congrArg some h2
  ·rw [O.env] at q
   have q1 : (envX qual scope L f (.ref cda) [(ofString "__class__",102)]).kindOf ar.arg = some .local := O.ka
   rw [q1] at q
   rcases q with q | ⟨q,_⟩ <;> cases q
 have hns : hh.Ns L m := by have := F.ns;rw [O.env] at this;exact this
 rw [O.env]
 refine ks_wpAt_super_base (env := envX qual scope L f (.ref cda) [(ofString "__class__",102)]) O.ks O.kc hat rfl (X _ _ hf) rfl hp rfl (X _ _ hcode) rfl hvs hfile main_super ?_
 refine ks_loadName_global O.hk O.ks (loadGlobal_builtin (env := envX qual scope L f (.ref cda) [(ofString "__class__",102)]) (T.g.keeps Fb.1) (mg_none_of ok.gr.X T.g (show nsIn (hd.heap_1 c.w.params) mainGlobals (ofString "super") = some none by k_is)) (T.b.keeps Fb.1) ((T.builtins _ (by decide +kernel)).trans boot_super) ⟨rfl,?_⟩)
 refine wpAny_loadName_free O.hk O.kc rfl ⟨_,X _ _ hcell,rfl⟩ ?_
 refine wpAny_loadName_local O.hk O.ka hns hmv ?_
 refine ks_wpAny_isType_cls hD1 hD2 ⟨rfl,?_⟩
 refine ks_wpAny_call_super hD1 hD2 J.at_ J.cls ?_ (looks_mroIn X (show mroIn (hd.heap_1 c.w.params) 178 (.ref 178) = some true by k_is)) ?_
 ·intros c e
  have := J.no
  unfold notCls at this
  rw [e] at this
  exact Bool.noConfusion this
 ·intros h' e kk
  exact h _ _ ⟨fun b o _ eb => kk b o eb,rfl,fun z => z⟩ e (Heap.get?_none_of_le (Nat.le_refl _))
end
end
section
theorem code_boundW {w : World} {A : Around} {s : Shared} {R : Result -> Shared -> Prop} {q : Addr} {bt id : String} {x : Addr} (hq : s.heap.get? q = some { cls := .type bt,data := .fields #[.builtin id,.ref x] }) (hbt : bt = "builtin_function_or_method" ∨ bt = "method-wrapper")
  (hchk : ∀ (A : Around) (Q : Unit -> Shared -> Prop) E,Q () s -> wpAny (model PR w) A (checkBoundCall id ⟨[.ref x],[]⟩) Q E s) (hquiet : (Code.builtin id ⟨[.ref x],[]⟩).quiet = true) (h : codeAny (model PR w) A (.builtin id ⟨[.ref x],[]⟩) R s) : codeAny (model PR w) A (.call (.ref q) ⟨[],[]⟩) R s := by
 refine codeAny_of_tree ?_
 show wpAny _ A.in1 (callAny (.ref q) _) _ _ _
 unfold callAny
 refine wpAny_bind (wpAny_load hq ?_)
 rcases hbt with rfl | rfl
 ·exact wpAny_bind (hchk _ _ _ (wpAny_pure ⟨hquiet,h⟩))
 ·exact wpAny_bind (hchk _ _ _ (wpAny_pure ⟨hquiet,h⟩))
section
variable {c : Cx} {I I' : Asr c.W} {ρ : List (Str × D)} {n : Nat} {s0 : Shared} {x dx : Addr} {at_ : List (Str × D)} {k : Nat}
structure SupB (w : World) (name : Str) (id bt T getId : String) : Prop where
 al : ∀ P,alongIn (hd.heap_1 P) name [.type "list",.type "object"] = some (some (.builtin id))
 ty : typeOf (.builtin id) = pure (.type T)
 lk : typeLookup (.type T) "__get__" = pure (some (.builtin getId))
 hbt : bt = "builtin_function_or_method" ∨ bt = "method-wrapper"
 nc : (name == ("__class__" : Str)) = false
 call : ∀ (A : Around) (h : Heap) g d t os (x : Addr) (Q : Value -> Shared -> Prop),Looks (model PR w) h (isInstance (.ref x) (.type "list")) true -> Q (.ref h.objs.size) ⟨h.push { cls := .type bt,data := .fields #[.builtin id,.ref x] },g,d,t,os⟩ ->
  wpAny (model PR w) A (call (.builtin getId) [.builtin id,.ref x,.ref 178]) Q NoE ⟨h,g,d,t,os⟩
 quiet : ∀ x,(Code.builtin id ⟨[.ref x],[]⟩).quiet = true
theorem super_call {body : List Stmt} {qual : Str} {scope : Scope} {L f cda : Addr} {sn : Str} {p0 p1 apos pos : Pos} {name : Str} {id bt T getId : String} {Q : Value -> Shared -> Prop} {s : Shared} (ok : c.Ok n) (O : SupOk c qual scope L f cda sn) (B : SupB c.w name id bt T getId) (S : Sta c I ρ s)
  (hρ : ρ.lookup sn = some (.val (.ref x))) (hI : HasI I x dx 178 at_ k)
  (h : ∀ s',Ext [] s s' -> (∀ (A : Around) (Q : Unit -> Shared -> Prop) E,Q () s' -> wpAny (model PR c.w) A (checkBoundCall id ⟨[.ref x],[]⟩) Q E s') ∧ codeAny c.M c.A (.builtin id ⟨[.ref x],[]⟩) (fun r s'' => match r with | .ok (.ret v) => Q v s'' | .ok _ => False | .error e => False) s')
  (he : ∃ pl,eval (.Call (.Attribute (.Call (.Name "super" p0) [] [] p1) name apos) [] [] pos) c.env = (do
   let ov ← attributeBase (.Call (.Name "super" p0) [] [] p1) name c.env (eval (.Call (.Name "super" p0) [] [] p1) c.env)
   standAt apos.atName
   let (f,first) ← holding [ov] (getMethod ov name pl)
   callWith pos f first (backTo pos (starEach [] c.env)) []) := by exact ⟨_,rfl⟩) :
  _root_.PySem.wpAt c.M c.A (.func body c.env) (eval (.Call (.Attribute (.Call (.Name "super" p0) [] [] p1) name apos) [] [] pos) c.env) Q NoE s := by
 obtain ⟨pl,he⟩ := he
 refine ks_wpAt_MethodCall (pl := pl) (super_node ok O S hρ hI B.nc fun so s1 e1 hso hfr => ?_) he
 have S1 := S.ext e1
 have X1 := S1.kin ok
 obtain ⟨dat,hc,J⟩ := hI _ S1.asr
 obtain ⟨es,k',J,_,hl⟩ := J.inst hc
 have hi : Looks (model PR c.w) s1.heap (isInstance (.ref x) (.type "list")) true := J.type.andThen (looks_mroIn X1 (show mroIn (hd.heap_1 c.w.params) 178 (.type "list") = some true by k_is))
 have hx178 : x ≠ 178 := fun q => by
  have h1 := J.at_
  rw [q] at h1
  obtain ⟨cdD,hD⟩ := cls178 c.w.params
  unfold clsIn at hD
  split at hD
  ·rename_i ho
   have := X1 _ _ ho
   rw [h1] at this
   cases this
   exact hc _ rfl
  ·cases hD
 have hmro : Looks (model PR c.w) s1.heap (mroOf (.ref 178)) [.ref 178,.type "list",.type "object"] := by
  obtain ⟨cdD,hD,hm⟩ : ∃ cd,clsIn (hd.heap_1 c.w.params) 178 = some cd ∧ cd.mro = [.ref 178,.type "list",.type "object"] := ⟨_,by k_is,rfl⟩
  rw [← hm]
  exact (looks_clsIn X1 hD).andThen .now
 obtain ⟨h1,g1,d1,t1,os1⟩ := s1
 refine getMethod_superB (id := id) (T := T) (getId := getId) (h' := h1.push { cls := .type bt,data := .fields #[.builtin id,.ref x] }) (q := h1.objs.size) hso (looks_opaque X1 (show nsIn (hd.heap_1 c.w.params) cStatics "thirdparty.any" = some none by k_is)) hmro (l := [.type "list",.type "object"]) (by simp) X1 (B.al _) B.ty B.lk hx178 B.nc
  (fun A Q hq => B.call A h1 g1 d1 (t1 + 1) os1 x Q hi hq) ?_
 have e2 : Ext [] s ⟨h1.push { cls := .type bt,data := .fields #[.builtin id,.ref x] },g1,d1,t1 + 1,os1⟩ := e1.trans ⟨fun b o _ e => Heap.get?_push_of_some _ e,rfl,fun z => z⟩
 have hq : (h1.push { cls := .type bt,data := .fields #[.builtin id,.ref x] }).get? h1.objs.size = some { cls := .type bt,data := .fields #[.builtin id,.ref x] } := Heap.get?_push_size _ rfl
 obtain ⟨hchk,hcode⟩ := h _ e2
 refine callWith_of (P := fun h => h.get? h1.objs.size = some { cls := .type bt,data := .fields #[.builtin id,.ref x] }) rfl (fun h hh => ⟨.machine,.inr (.inl rfl),?_⟩) (evalArgs_nil3 ⟨hq,?_⟩)
 ·refine (Looks.ld (part := none) hh).andThen ?_
  rcases B.hbt with rfl | rfl <;> exact Looks.of_pure rfl
 ·refine wpAny_call (code_boundW hq B.hbt hchk (B.quiet _) (codeAny_mono hcode fun r s'' z => ?_))
  rcases r with e | (v | _ | _ | _) <;> exact z
end
end
section
section
variable {c : Cx} {I I' : Asr c.W} {ρ : List (Str × D)} {n : Nat} {s0 : Shared} {Q : Flow -> Shared -> Prop} {rest : List Stmt} {x dx C : Addr} {k : Nat} {at_ : List (Str × D)}
theorem meth_go0 {d : D} {ds : List D} {f : Addr} {m : Nat} (ok : c.Ok n) (hm : m ≤ n) (sp : SpecX c.w c.hb c.W [] m f I (.val (.ref x) :: ds) d I) {s s1 : Shared} (q : Ext [] s s1) (S1 : Sta c I ρ s1) :
  ∀ vs s2,Ext [] s1 s2 -> Rels c.W s2.heap ds vs -> wpAny c.M c.A (call (.ref f) ([.ref x] ++ vs)) (fun v s' => Ext [] s s' ∧ Rel c.W s'.heap d v) NoE s2 := fun vs s2 e2 r2 => by
 have S2 := S1.ext e2
 refine fin (sp c.A s2 _ (ok.room.le hm) S2.stays.1 S2.stays.2 S2.win S2.asr (by unfold Rels;exact ⟨_,_,rfl,mval,r2⟩)) fun v s3 z => ?_
 obtain ⟨z1,z2,z3,z4⟩ := z
 exact ⟨(q.trans e2).trans z1,z2⟩
theorem JE.methL0 {o : Expr} {name : Str} {apos pos : Pos} {d : D} {f : Addr} {m : Nat} (ok : c.Ok n) (hm : m ≤ n) (ho : JE c I ρ o (.val (.ref x))) (hI : HasI I x dx C at_ k) (hat : at_.lookup name = none)
  (OL : OverList (hd.heap_1 c.w.params) C) (hf : findIn (hd.heap_1 c.w.params) (.ref C) name = some (some (.ref f))) (ht : isFn (hd.heap_1 c.w.params) (.ref f) = true) (hk : keepIn (hd.heap_1 c.w.params) (.ref f) = true)
  (sp : SpecX c.w c.hb c.W [] m f I [.val (.ref x)] d I)
  (he : ∃ pl,eval (.Call (.Attribute o name apos) [] [] pos) c.env = (do
   let ov ← eval o c.env
   standAt apos.atName
   let (f,first) ← holding [ov] (getMethod ov name pl)
   callWith pos f first (backTo pos (starEach [] c.env)) []) := by exact ⟨_,rfl⟩) :
  JE c I ρ (.Call (.Attribute o name apos) [] [] pos) d := fun s S => by
 obtain ⟨pl,he⟩ := he
 refine MethodCall_ (pl := pl) (fin (ho s S) fun ov s1 q => ?_) he
 rw [rval q.2]
 have S1 := S.ext q.1
 refine meth_getL ok S1 hI hat OL hf (beq_iff_eq.mp ht) (by decide +kernel) (callWith_K0 (S1.kin ok) hk ?_)
 exact meth_go0 ok hm sp q.1 S1 [] s1 (Ext.refl _ _) (by unfold Rels;rfl)
end
end
section
section
variable {w : World} {A : Around} {E : Value -> Shared -> Prop} {h : Heap} {g : Array GenState} {d : Drawn} {t : Nat} {os : OsState} {x : Addr} {ox : Obj} {od : Option Obj}
theorem special_lst {name : Str} {id n : String} {B : Builtin} {rest : List Value} {Q : Option Value -> Shared -> Prop} (X : (hd.heap_1 w.params).In h) (I : InstAt h x ox 178 od) (hs : findIn (hd.heap_1 w.params) (.ref 178) name = some (some (.builtin id))) (sl : Slot "list" name id) (entry : entryFor table id = some B)
  (hk : builtinKind id = some .slot ∨ builtinKind id = some .method) (hsp : splitId id = some ("list",n)) (ha : argsOk id ⟨.ref x :: rest,[]⟩) (q : wpAny (model PR w) A.in1 (B ⟨.ref x :: rest,[]⟩) (fun fin s' => ∃ v,fin = .done (.ret v) ∧ Q (some v) s') E ⟨h,g,d,t,os⟩) :
  wpAny (model PR w) A (callSpecial? (.ref x) name rest) Q E ⟨h,g,d,t,os⟩ := by
 refine wpAny_bind (wpAny_bind ((I.type (M := model PR w)).at ((looks_findIn (M := model PR w) X hs).at (wpAny_holding (wpAny_bind (wpAny_of_eq (sl.bind (.ref x)) ?_))))))
 refine wpAny_bind (wpAny_mono (Q := fun v s' => Q (some v) s') (E := E) (call_listslot (s := ⟨h,g,d,t,os⟩) X I (show mroIn (hd.heap_1 w.params) 178 (.type "list") = some true by k_is) sl.plain entry hk hsp ha ?_) (fun v s' z => wpAny_pure z) fun _ _ z => z)
 exact q
theorem seqkey_178 {k : Value} {name : Str} (X : (hd.heap_1 w.params).In h) (I : InstAt h x ox 178 od) : Looks (model PR w) h (sequenceKey (.ref x) k name) k := by
 have L1 := I.type (M := model PR w)
 have L2 : Looks (model PR w) h (isSubtype (.ref 178) (.type "collections.deque")) false := looks_mroIn X (by k_is)
 refine L1.andThen ?_
 intro A Q E s kk q
 refine wpAny_bind (wpAny_bind (L2 _ _ _ _ kk ?_))
 exact wpAny_pure (wpAny_pure q)
theorem updSeqX {A : Around} {E : Value -> Shared -> Prop} {x C dx : Addr} {its : Array Value} {n : Nat} {fn : Array Value -> Array Value} {Q : Unit -> Shared -> Prop} (ho : h.get? x = some ⟨.ref C,some dx,.seq its n,#[]⟩) (h1 : its.size ≤ 2000) (h2 : (fn its).size ≤ 2000)
  (q : ∀ h' m,Heap.SameBut x h h' -> h'.get? x = some ⟨.ref C,some dx,.seq (fn its) m,#[]⟩ -> Q () ⟨h',g,d,t,os⟩) : wpAny (model PR w) A (updateSeq x fn) Q E ⟨h,g,d,t,os⟩ := by
 obtain ⟨m,e⟩ : ∃ m,Obj.mapSeq fn ⟨.ref C,some dx,.seq its n,#[]⟩ = ⟨.ref C,some dx,.seq (fn its) m,#[]⟩ := ⟨_,rfl⟩
 refine wpAny_updateSeq (s := ⟨h,g,d,t,os⟩) ho rfl (q _ m (Heap.SameBut.update ..) ?_) (by rw [sizeLine_eq];omega) (by rw [sizeLine_eq];omega)
 rw [Heap.get?_update_self _ ho (by rw [e];rfl),e]
theorem slot_lset : Slot "list" "__setitem__" "list.__setitem__" := .of (owner := "list") (n := "__setitem__") (by rw [typeLookup_type,builtinLookup_eq_fast];kernel_rfl) (by decide +kernel) (by decide +kernel) (by decide +kernel) (.inl (by decide +kernel)) (by rw [isSubtype_type];kernel_rfl)
theorem entry_lset : entryFor table "list.__setitem__" = some Builtin.«list.__setitem__» := entryFor_of_tree (by kernel_rfl)
theorem args_lset (a b c : Value) : argsOk "list.__setitem__" ⟨[a,b,c],[]⟩ := by unfold argsOk;kernel_rfl
section
variable {dx sl : Addr} {items : Array Value} {n : Nat} {vl vu vs : Value} {lo hi : Option Int}
theorem sub_none {Q : Option Int -> Shared -> Prop} (hs : h.IsSliceOf sl vl vu .none) (q : Q none ⟨h,g,d,t,os⟩) : wpAny (model PR w) A (Builtin.List.listSubscript? (.ref sl)) Q E ⟨h,g,d,t,os⟩ := by
 obtain ⟨os',hos,hcs,hds⟩ := hs
 unfold Builtin.List.listSubscript?
 refine wpAny_bind (wpAny_specialOf (s := ⟨h,g,d,t,os⟩) ⟨os',hos,hcs⟩ slice_no_index ?_)
 simp only [Option.isNone_none,if_true]
 exact wpAny_pure q
theorem parts_none {Q : Value × Value × Value -> Shared -> Prop} (hs : h.IsSliceOf sl vl vu .none) (pl : IsPart vl lo) (pu : IsPart vu hi) (q : Q (rawPart lo,rawPart hi,rawPart none) ⟨h,g,d,t,os⟩) : wpAny (model PR w) A (Builtin.List.listSliceParts (.ref sl)) Q E ⟨h,g,d,t,os⟩ := by
 obtain ⟨os',hos,hcs,hds⟩ := hs
 rw [listSliceParts_eq]
 refine wpAny_bind (wpAny_field (s := ⟨h,g,d,t,os⟩) hos hds (x := .none) rfl (wpAny_bind (wpAny_listPart .none ?_)))
 rw [if_neg (show ¬ ((rawPart none == rawInt 0) = true) from Bool.false_ne_true)]
 refine wpAny_bind (wpAny_field (s := ⟨h,g,d,t,os⟩) hos hds (x := vl) rfl (wpAny_bind (wpAny_listPart pl ?_)))
 exact wpAny_bind (wpAny_field (s := ⟨h,g,d,t,os⟩) hos hds (x := vu) rfl (wpAny_bind (wpAny_listPart pu (wpAny_pure q))))
theorem getItem_slA {Q : Value -> Shared -> Prop} (X : (hd.heap_1 w.params).In h) (I : InstAt h x ⟨.ref 178,some dx,.seq items n,#[]⟩ 178 od) (hs : h.IsSliceOf sl vl vu .none) (pl : IsPart vl lo) (pu : IsPart vu hi) (hz : items.size ≤ 2000)
  (q : Q (.ref h.objs.size) ⟨h.push { cls := .type "list",data := .seq (slicePick items lo hi none) },g,d,t,os⟩) : wpAny (model PR w) A (getItem (.ref x) (.ref sl)) Q E ⟨h,g,d,t,os⟩ := by
 obtain ⟨os',hos,hcs,hds⟩ := id hs
 unfold getItem
 refine wpAny_holding (wpAny_bind ((seqkey_178 X I).at ?_))
 refine wpAny_bind (special_lst X I (by k_is) slot_list_getitem entry_list_getitem kind_lget split_lget (args_list_getitem _ _) ?_)
 show wpAny _ _ (Builtin.List.listSubscript? (.ref sl) >>= _) _ _ _
 refine wpAny_bind (sub_none hs ?_)
 show wpAny _ _ (typeOf (.ref sl) >>= _) _ _ _
 refine wpAny_bind (wpAny_typeOf (s := ⟨h,g,d,t,os⟩) ⟨os',hos,hcs⟩ ?_)
 rw [if_neg (by decide)]
 refine wpAny_bind (parts_none hs pl pu ?_)
 refine wpAny_bind (listItems_at I.at_ rfl ?_)
 refine wpAny_bind (wpAny_of_eq (sliceIndices_raw lo hi none items.size (by simp)) ?_)
 exact wpAny_bind (wpAny_newObj_type (s := ⟨h,g,d,t,os⟩) (wpAny_pure ⟨_,rfl,wpAny_pure q⟩) (Nat.le_trans (slicePick_size_le items lo hi none) (by rw [sizeLine_eq];omega)))
theorem cut_len {a b n : Nat} (h : a ≤ b) : min a n - 0 + (min n n - b) ≤ n := by
 rw [Nat.min_self]
 rcases Nat.le_total b n with g | g
 ·exact Nat.le_trans (Nat.add_le_add_right (Nat.le_trans (Nat.min_le_left _ _) h) _) (Nat.le_of_eq (Nat.add_sub_cancel' g))
 ·rw [Nat.sub_eq_zero_of_le g];exact Nat.min_le_right _ _
theorem setItem_slA {l : Addr} {news : Array Value} {Q : Unit -> Shared -> Prop} (X : (hd.heap_1 w.params).In h) (I : InstAt h x ⟨.ref 178,some dx,.seq items n,#[]⟩ 178 od) (hs : h.IsSliceOf sl vl vu .none) (pl : IsPart vl lo) (pu : IsPart vu hi) (hl : h.IsList l news) (hz : items.size ≤ 900) (hz2 : news.size ≤ 900)
  (q : ∀ h' m,Heap.SameBut x h h' -> h'.get? x = some ⟨.ref 178,some dx,.seq (items.extract 0 (sliceBounds lo hi none items.size).1.toNat ++ news ++ items.extract (max (sliceBounds lo hi none items.size).1 (sliceBounds lo hi none items.size).2.1).toNat items.size) m,#[]⟩ -> Q () ⟨h',g,d,t,os⟩) :
  wpAny (model PR w) A (setItem (.ref x) (.ref sl) (.ref l)) Q E ⟨h,g,d,t,os⟩ := by
 revert w A E h g d t os x od dx sl items n vl vu lo hi l news Q;intros w A E h g d t os x od dx sl items n vl vu lo hi l news Q X I hs pl pu hl hz hz2 q
 obtain @⟨os',hos,hcs,hds⟩ := id hs
 obtain @⟨ol,hol,hcl,nl,hdl⟩ := id hl
 have hxl : x ≠ l := fun q => by have h1 := I.at_;rw [q,hol] at h1;cases h1;cases hcl
 unfold setItem
 refine wpAny_holding (wpAny_bind ((seqkey_178 X I).at ?_))
 refine wpAny_bind (special_lst X I (by k_is) slot_lset entry_lset kind_lset split_lset (args_lset _ _ _) ?_)
 show wpAny _ _ (Builtin.List.listSubscript? (.ref sl) >>= _) _ _ _
 refine wpAny_bind (sub_none hs ?_)
 show wpAny _ _ (typeOf (.ref sl) >>= _) _ _ _
 refine wpAny_bind (wpAny_typeOf (s := ⟨h,g,d,t,os⟩) ⟨os',hos,hcs⟩ ?_)
 rw [if_neg (by decide)]
 refine wpAny_bind (parts_none hs pl pu ?_)
 have hsame : Builtin.List.listSameRef (.ref x) (.ref l) = false := by show (x == l) = false;simpa using hxl
 dsimp only
 rw [hsame,if_neg (by decide)]
 unfold Builtin.List.listAllItems
 refine wpAny_bind (wpAny_bind (wpAny_typeOf (s := ⟨h,g,d,t,os⟩) ⟨ol,hol,hcl⟩ ?_))
 rw [if_pos (by decide)]
 refine listItems_at hol hdl ?_
 refine wpAny_bind (m := Builtin.List.listItems (.ref x)) (listItems_at I.at_ rfl ?_)
 refine wpAny_bind (wpAny_of_eq (sliceIndices_raw lo hi none items.size (by simp)) ?_)
 have h1 : (sliceBounds lo hi none items.size).2.2 = 1 := rfl
 rw [h1,if_pos (by decide)]
 refine wpAny_bind (wpAny_rule ?_)
 have h2 : Builtin.List.listTooLong (items.size + news.size) = false := by
  unfold Builtin.List.listTooLong
  rw [sizeLine_eq]
  exact decide_eq_false (by omega)
 rw [h2,if_neg (by decide)]
 refine wpAny_bind (updSeqX I.at_ (by omega) ?_ fun h' m' sb e => ?_)
 ·simp only [Array.size_append,Array.size_extract]
  rw [Nat.add_right_comm]
  exact Nat.le_trans (Nat.add_le_add (Nat.le_trans (cut_len (Int.toNat_le_toNat (Int.le_max_left _ _))) hz) hz2) (by decide)
 refine wpAny_bind (wpAny_letGo ?_)
 exact wpAny_pure ⟨_,rfl,wpAny_pure (q h' m' sb e)⟩
end
end
end
section
theorem tail_178 {w : World} {A : Around} {E : Value -> Shared -> Prop} {s : Shared} {value slice : Expr} {x : Addr} {i : Value} {ox : Obj} {od : Option Obj} {ops : List Value} {Q : Value -> Shared -> Prop} (X : (hd.heap_1 w.params).In s.heap) (I : InstAt s.heap x ox 178 od)
  (h : wpAny (model PR w) A (getItem (.ref x) i) Q E s) (hs : subscripted slice false (.ref x) i = operate ops (getItem (.ref x) i)) : wpAny (model PR w) A (subscriptTail value slice (.ref x) i) Q E s := by
 unfold subscriptTail
 have L : Looks (model PR w) s.heap (getitemInPython (.ref x)) false := ((I.type (M := model PR w)).andThen (looks_findIn X (show findIn (hd.heap_1 w.params) (.ref 178) (ofString "__getitem__") = some (some (.builtin "list.__getitem__")) by k_is))).andThen .now
 refine wpAny_bind (L.here ?_)
 refine wpAny_bind ?_
 rw [hs]
 exact wpAny_operating (wpAny_mono h (fun r s₃ h₃ => wpAny_bind (wpAny_letTemporaryGo (wpAny_pure h₃))) fun _ _ x => x)
section
variable {c : Cx} {I I' : Asr c.W} {ρ : List (Str × D)} {n : Nat} {s0 : Shared} {Q : Flow -> Shared -> Prop} {rest : List Stmt} {x dx : Addr}
noncomputable def HasL (I : Asr c.W) (x dx : Addr) (ds : List D) : Prop := ∀ h,I.P h -> ∃ vs m od,InstAt h x ⟨.ref 178,some dx,.seq (List.toArray vs) m,#[]⟩ 178 od ∧ Rels c.W h ds vs
theorem fresh_W {h : Heap} {W : List Addr} (hW : WIn W h) {a : Addr} (ha : h.objs.size ≤ a) : a ∉ W := fun q => by
 obtain ⟨o,e⟩ := hW _ q
 exact absurd (Heap.lt_size e) (Nat.not_lt.mpr ha)
theorem JE.sliceA {v a : Expr} {p pos : Pos} {ds : List D} {i : Nat} (ok : c.Ok n) (h : JE c I ρ v (.val (.ref x))) (ha : JE c I ρ a (.int i)) (hL : HasL I x dx ds) (hz : ds.length ≤ 2000)
  (hs : ∀ o k,subscripted (.Slice (some a) none none p) false o k = operate [k,o] (getItem o k) := by intro _ _;with_unfolding_all rfl) :
  JE c I ρ (.Subscript v (.Slice (some a) none none p) pos) (.lst (ds.drop i)) := fun s S => by
 refine Subscript_ (fin (h s S) fun y s1 q => ?_)
 rw [rval q.2]
 have S1 := S.ext q.1
 refine wpAny_Slice (fin (ha s1 S1) fun y s2 q2 => wpAny_pure (wpAny_pure ?_))
 have S2 := S1.ext q2.1
 obtain ⟨t,rfl⟩ := rint q2.2
 have e3 : Ext [] s2 { s2 with heap := s2.heap.push { cls := .type "slice",data := .fields #[.int i t,.none,.none] } } := Ext.push
 have S3 := S2.ext e3
 obtain ⟨vs,m,od,J,hR⟩ := hL _ S3.asr
 have hlen := hR.length
 refine tail_178 (S3.kin ok) J (getItem_slA (S3.kin ok) J (Heap.IsSliceOf.new ..) (.int _ _) .none (by simp;omega) ?_) (hs _ _)
 have e4 : Ext [] s { s2 with heap := (s2.heap.push { cls := .type "slice",data := .fields #[.int i t,.none,.none] }).push { cls := .type "list",data := .seq (slicePick (List.toArray vs) (some (i : Int)) none none) } } := ((q.1.trans q2.1).trans e3).trans Ext.push
 refine ⟨e4,?_⟩
 unfold Rel
 refine ⟨_,(slicePick (List.toArray vs) (some (i : Int)) none none).toList,rfl,fresh_W S3.win (Nat.le_refl _),⟨_,Heap.get?_push_size _ rfl,rfl,_,by rw [Array.toArray_toList]⟩,?_⟩
 rw [slicePick_from']
 have e5 : Ext [] { s2 with heap := s2.heap.push { cls := .type "slice",data := .fields #[.int i t,.none,.none] } } { s2 with heap := (s2.heap.push { cls := .type "slice",data := .fields #[.int i t,.none,.none] }).push { cls := .type "list",data := .seq (slicePick (List.toArray vs) (some (i : Int)) none none) } } := Ext.push
 rw [slicePick_from'] at e5
 simpa using (hR.drop i).ext e5
theorem bounds_from {i n : Nat} (h : i ≤ n) : sliceBounds (some (i : Int)) none none n = ((i : Int),(n : Int),1) := by
 unfold sliceBounds
 have h0 : ¬ ((i : Int) < 0) := Int.not_lt.mpr (Int.natCast_nonneg i)
 simp
 rw [if_neg h0,Int.min_eq_left (Int.ofNat_le.mpr h),Int.max_eq_right (Int.natCast_nonneg i)]
theorem bounds_all (n : Nat) : sliceBounds none none none n = (0,(n : Int),1) := by
 unfold sliceBounds
 simp
theorem store_slice {w : World} {A : Around} {h : Heap} {g : Array GenState} {d : Drawn} {t : Nat} {os : OsState} {E : Value -> Shared -> Prop} {vs ws : List Value} {m : Nat} {od : Option Obj} {sl l : Addr} {vl : Value} {lo : Option Int} {i : Nat} {Q : Unit -> Shared -> Prop} (X : (hd.heap_1 w.params).In h)
  (I : InstAt h x ⟨.ref 178,some dx,.seq (List.toArray vs) m,#[]⟩ 178 od) (hs : h.IsSliceOf sl vl .none .none) (pl : IsPart vl lo) (hb : sliceBounds lo none none vs.length = ((i : Int),(vs.length : Int),1)) (hi : i ≤ vs.length) (hl : h.IsList l ws.toArray) (hz : vs.length ≤ 900) (hz2 : ws.length ≤ 900)
  (q : ∀ h' m,Heap.SameBut x h h' -> h'.get? x = some ⟨.ref 178,some dx,.seq (List.toArray (vs.take i ++ ws)) m,#[]⟩ -> Q () ⟨h',g,d,t,os⟩) : wpAny (model PR w) A (setItem (.ref x) (.ref sl) (.ref l)) Q E ⟨h,g,d,t,os⟩ := by
 refine setItem_slA X I hs pl .none hl (by simpa using hz) (by simpa using hz2) fun h' m' sb e => q h' m' sb ?_
 rw [e]
 have hb' : sliceBounds lo none none (List.toArray vs).size = ((i : Int),(vs.length : Int),1) := by simpa using hb
 rw [hb']
 have e1 : max (i : Int) (vs.length : Int) = (vs.length : Int) := Int.max_eq_right (Int.ofNat_le.mpr hi)
 dsimp only
 rw [e1]
 have e2 : ((List.toArray vs).extract 0 (i : Int).toNat ++ List.toArray ws ++ (List.toArray vs).extract (vs.length : Int).toNat (List.toArray vs).size) = List.toArray (vs.take i ++ ws) := by
  apply Array.ext'
  simp
 rw [e2]
theorem JS.setSlice {o e : Expr} {la : Option Expr} {p pos' pos : Pos} {ds es : List D} {i : Nat} (ok : c.Ok n) (he : JE c I ρ e (.lst es)) (ho : JE c I ρ o (.val (.ref x))) (ha : (∃ a,la = some a ∧ JE c I ρ a (.int i)) ∨ (la = none ∧ i = 0)) (hL : HasL I x dx ds) (hU : x ∈ c.U) (hi : i ≤ ds.length) (hz : ds.length ≤ 900) (hz2 : es.length ≤ 900)
  (up : ∀ h h' vs m m' od ws,I.P h -> InstAt h x ⟨.ref 178,some dx,.seq (List.toArray vs) m,#[]⟩ 178 od -> Rels c.W h ds vs -> Rels c.W h es ws -> Heap.SameBut x h h' -> h'.get? x = some ⟨.ref 178,some dx,.seq (List.toArray (vs.take i ++ ws)) m',#[]⟩ -> I'.P h')
  (k : JP c (Sto c I' s0 ρ) rest Q) (hsw : swapsWith e (some (.Subscript o (.Slice la none none p) pos')) pos.line c.env = pure false := by rfl) :
  JP c (Sto c I s0 ρ) (.Assign [.Subscript o (.Slice la none none p) pos'] e pos :: rest) Q := JP.step fun s S => by
 refine wpAny_Assign_Subscript (fin (he s S.sta) fun v s1 q => fin (ho s1 (S.sta.ext q.1)) fun ov s2 q2 => ?_) hsw
 have S2 := (S.ext0 q.1).ext0 q2.1
 rw [rval q2.2]
 have main : ∀ s3 vl lo,Ext [] s2 s3 -> IsPart vl lo -> (∀ m,i ≤ m -> sliceBounds lo none none m = ((i : Int),(m : Int),1)) -> wpAny c.M c.A (setItem (.ref x) (.ref s3.heap.objs.size) v) (fun _ => QN c rest Q .next) NoE { s3 with heap := s3.heap.push { cls := .type "slice",data := .fields #[vl,.none,.none] } } := by
  intro s3 vl lo e3 pl hb
  have e4 : Ext [] s2 { s3 with heap := s3.heap.push { cls := .type "slice",data := .fields #[vl,.none,.none] } } := e3.trans Ext.push
  have S4 := S2.ext0 e4
  obtain ⟨vs,m,od,J,hR⟩ := hL _ S4.sta.asr
  have hlen := hR.length
  obtain ⟨l,ws,rfl,hl,hLi,hRe⟩ := rlst ((q.2.ext q2.1).ext e4)
  have hlen2 := hRe.length
  refine store_slice (S4.sta.kin ok) J (Heap.IsSliceOf.new ..) pl (hb _ (by omega)) (by omega) hLi (by omega) (by omega) fun h' m' sb e' => ?_
  have kp : ∀ b o,b ∉ [x] -> (s3.heap.push { cls := .type "slice",data := .fields #[vl,.none,.none] }).get? b = some o -> h'.get? b = some o := fun b o nb eb => sb.extBut b o (fun q => nb (q ▸ List.mem_singleton.mpr rfl)) eb
  have e5 : Ext [x] { s3 with heap := s3.heap.push { cls := .type "slice",data := .fields #[vl,.none,.none] } } { s3 with heap := h' } := ⟨kp,rfl,fun z => z⟩
  refine k _ ⟨S4.ext.trans (e5.mono fun b q => by rw [List.mem_singleton.mp q];exact u_sub _ hU),S4.sta.upd ok e5 (fun b q => by rw [List.mem_singleton.mp q];exact hU) (fun b q => by rw [List.mem_singleton.mp q];exact ⟨_,e'⟩) (up _ _ vs m m' od ws S4.sta.asr J hR hRe sb e')⟩
 rcases ha with ⟨a,rfl,ha⟩ | ⟨rfl,rfl⟩
 ·refine wpAny_Slice (fin (ha s2 S2.sta) fun y s3 q3 => wpAny_pure (wpAny_pure ?_))
  obtain ⟨t,rfl⟩ := rint q3.2
  exact main s3 _ _ q3.1 (.int _ _) fun m hm => bounds_from hm
 ·refine wpAny_Slice (wpAny_pure (wpAny_pure (wpAny_pure ?_)))
  exact main s2 _ _ (Ext.refl _ _) .none fun m hm => bounds_all m
end
end
theorem spec_enterB {m : Nat} {f : Addr} {d : D} {ρ : List (Str × D)} {w : World} {hb : Heap} {W U : List Addr} {I I' : Asr W} {A : Around} {s : Shared} {vs : List Value} {binds : List (Str × Value)}
  {name qual : Str} {params : Arguments} {body : List Stmt} {scope : Scope} {dV kV doc pm cdv ct oc : Value} {an od : Option Addr} {osl : Array (Option Value)}
  (g : Amb w hb W U) (room : Room A (m + 1)) (hst : hb.StaysIn s.heap) (hsz : hb.objs.size ≤ s.heap.objs.size) (hW : WIn W s.heap) (hI : I.P s.heap)
  (ho : (hd.heap_1 w.params).lookup f = some ⟨oc,od,.func (fnOf name qual params body scope dV kV doc pm an cdv ct),osl⟩) (hcd : codeIn (hd.heap_1 w.params) cdv qual = true)
  (hbind : BindsTo s (fnOf name qual params body scope dV kV doc pm an cdv ct) ⟨vs,[]⟩ binds) (hρ : ∀ x d,ρ.lookup x = some d -> ∃ v,binds.reverse.lookup x = some v ∧ Rel W s.heap d v ∧ scope.names.lookup x = some .local)
  (hloc : ∀ x ∈ binds,scope.names.lookup x.1 = some .local) (hcell : ∀ x ∈ scope.names,x.2 ≠ .cell)
  (h : ∀ (A' : Around) (env : Env) (s0 : Shared) (L : Addr),env = envX qual scope L f cdv [] -> (Cx.mk w hb W U A' env).Ok m -> JP (Cx.mk w hb W U A' env) (Sto (Cx.mk w hb W U A' env) I s0 ρ) body (RQX (Cx.mk w hb W U A' env) s0 d I'))
  (hco : scope.isCoroutine = false) (hgen : scope.isGenerator = false) (hk : scope.kind = .function) :
  wpAny (model PR w) A (call (.ref f) vs) (fun v s' => Ext U s s' ∧ Rel W s'.heap d v ∧ WIn W s'.heap ∧ I'.P s'.heap) NoE s := by
 obtain ⟨p,loose,mg,mb,T⟩ := g.g.T
 have X : (hd.heap_1 w.params).In s.heap := fun a o e => hst a o (g.g.X a o e)
 refine wpAny_call ?_
 refine codeAny_call_def (fd := fnOf name qual params body scope dV kV doc pm an cdv ct) (body := body) (binds := binds) (by have := room.dp;simp only [recursionLimit];omega) (X _ _ ho) rfl (T.nolimit.keeps hst) (codeRec_of (K := hd.heap_1 w.params) X hcd) rfl hbind hcell hloc (fun h0 hns hkp => ?_) hco hgen hk
 have henv : callEnv (fnOf name qual params body scope dV kV doc pm an cdv ct) s.heap.objs.size f = envX qual scope s.heap.objs.size f cdv [] := rfl
 rw [henv]
 have e0 : Ext [] s { s with heap := h0,toks := s.toks + binds.length } := ⟨fun b o _ => hkp b o,rfl,fun x => x⟩
 have hLn : s.heap.get? s.heap.objs.size = none := Heap.get?_none_of_le (Nat.le_refl _)
 have hLW : s.heap.objs.size ∉ W := hW.fresh
 have okc : Cx.Ok ⟨w,hb,W,U,A.deeper (envX qual scope s.heap.objs.size f cdv []),envX qual scope s.heap.objs.size f cdv []⟩ m := by
  refine ⟨g.g,⟨hk,.nil,fun n a hm => (nomatch hm),fun n a hm q => (nomatch hm),rfl,rfl⟩,⟨room.hh,?_,?_⟩,g.sub,g.wh⟩
  ·have := room.dp;simp only [Around.deeper];omega
  ·have := room.un;simp only [Around.deeper];omega
 have S0 : Sta ⟨w,hb,W,U,A.deeper (envX qual scope s.heap.objs.size f cdv []),envX qual scope s.heap.objs.size f cdv []⟩ I ρ { s with heap := h0,toks := s.toks + binds.length } := by
  refine ⟨⟨⟨_,⟨hns,fun b o e => hkp b o (hst b o e),hsz⟩,fun x d e => ?_⟩,fun n a hm => (nomatch hm),hLW⟩,hW.ext e0,I.st [] _ _ e0.keep (fun _ q => nomatch q) hI⟩
  obtain ⟨v,h1,h2,h3⟩ := hρ x d e
  exact .inl ⟨h3,v,h1,h2.ext e0⟩
 refine wpAny_mono (h _ _ _ s.heap.objs.size rfl okc _ ⟨Ext.refl _ _,S0⟩) (fun fl s' r => ?_) fun _ _ z => z.elim
 obtain ⟨v,hv,e,rr,hw,hi⟩ := r
 have e2 : Ext U s s' := ⟨fun b o nb eb => e.keep b o (fun q => ?_) (hkp b o eb),e.os,e.gens⟩
 ·rcases hv with rfl | ⟨rfl,rfl⟩ <;> exact ⟨e2,rr,hw,hi⟩
 ·rcases List.mem_append.mp q with q | q
  ·exact nb q
  ·have q' : b = s.heap.objs.size := List.mem_singleton.mp q
   rw [q',hLn] at eb;cases eb
section
theorem fits_small {k : Nat} (hk : k < 100000) : Builtin.List.listFitsIndex (k : Int) = true := by
 unfold Builtin.List.listFitsIndex
 simp only [Bool.and_eq_true,decide_eq_true_eq]
 omega
theorem getItem_intA {w : World} {A : Around} {E : Value -> Shared -> Prop} {h : Heap} {g : Array GenState} {d : Drawn} {t : Nat} {os : OsState} {x dx : Addr} {od : Option Obj} {items : Array Value} {n k : Nat} {tk : Tok} {v : Value} {Q : Value -> Shared -> Prop} (X : (hd.heap_1 w.params).In h) (I : InstAt h x ⟨.ref 178,some dx,.seq items n,#[]⟩ 178 od)
  (hk : k < 100000) (hx : items[k]? = some v) (q : Q v ⟨h,g,d,t,os⟩) : wpAny (model PR w) A (getItem (.ref x) (.int k tk)) Q E ⟨h,g,d,t,os⟩ := by
 have hf := fits_small hk
 clear hk
 generalize hki : (k : Int) = ki at hf ⊢
 unfold getItem
 refine wpAny_holding (wpAny_bind ((seqkey_178 X I).at ?_))
 refine wpAny_bind (special_lst X I (by k_is) slot_list_getitem entry_list_getitem kind_lget split_lget (args_list_getitem _ _) ?_)
 delta Builtin.«list.__getitem__»
 refine wpAny_bind (wpAny_of_eq (a := (Value.ref x,Value.int ki tk)) rfl ?_)
 dsimp only
 refine wpAny_bind (wpAny_listSubscript_int hf ?_)
 clear hf
 subst hki
 show wpAny _ _ ((seqItemAt x k >>= fun r => pure (r.map (k,·))) >>= _) _ _ _
 refine wpAny_bind (wpAny_bind (wpAny_seqItemAt (s := ⟨h,g,d,t,os⟩) I.at_ rfl (wpAny_pure ?_)))
 rw [hx]
 first
  | exact wpAny_bind (wpAny_pure (wpAny_pure ⟨_,rfl,wpAny_pure q⟩))
  | exact wpAny_pure ⟨_,rfl,wpAny_pure q⟩
section
variable {c : Cx} {I I' : Asr c.W} {ρ : List (Str × D)} {n : Nat} {x dx : Addr}
theorem Rels.at_ {W : List Addr} {h : Heap} : ∀ {ds : List D} {vs : List Value} {k : Nat} {d : D},Rels W h ds vs -> ds[k]? = some d -> ∃ v,vs[k]? = some v ∧ Rel W h d v
 | [],_,k,d,_,e => by simp at e
 | d0 :: ds,vs,0,d,x,e => by
  obtain ⟨v,r,rfl,p,_⟩ := x
  cases e
  exact ⟨v,rfl,p⟩
 | d0 :: ds,vs,k + 1,d,x,e => by
  obtain ⟨v,r,rfl,_,q⟩ := x
  obtain ⟨u,e1,e2⟩ := q.at_ (k := k) (by simpa using e)
  exact ⟨u,by simpa using e1,e2⟩
theorem JE.itemA {v i : Expr} {pos : Pos} {ds : List D} {k : Nat} {d : D} (ok : c.Ok n) (h : JE c I ρ v (.val (.ref x))) (hi : JE c I ρ i (.int k)) (hL : HasL I x dx ds) (hk : k < 100000) (hd' : ds[k]? = some d)
  (hs : ∀ o y,subscripted i false o y = operate [o,y] (getItem o y) := by intro _ _;with_unfolding_all rfl) :
  JE c I ρ (.Subscript v i pos) d := fun s S => by
 refine Subscript_ (fin (h s S) fun y s1 q => ?_)
 rw [rval q.2]
 have S1 := S.ext q.1
 refine fin (hi s1 S1) fun y s2 q2 => ?_
 have S2 := S1.ext q2.1
 obtain ⟨t,rfl⟩ := rint q2.2
 obtain ⟨vs,m,od,J,hR⟩ := hL _ S2.asr
 obtain ⟨u,e1,e2⟩ := hR.at_ hd'
 obtain ⟨h2,g2,d2,t2,os2⟩ := s2
 exact tail_178 (S2.kin ok) J (getItem_intA (S2.kin ok) J hk (by simpa using e1) ⟨q.1.trans q2.1,e2⟩) (hs _ _)
end
end
section
noncomputable def SeqAt (h : Heap) (l : Addr) (items : Array Value) : Prop := ∃ o n,h.get? l = some o ∧ o.data = .seq items n
theorem SeqAt.at_ {h h' : Heap} {l : Addr} {items : Array Value} (x : SeqAt h l items) (k : ∀ o,h.get? l = some o -> h'.get? l = some o) : SeqAt h' l items := let ⟨o,n,e,d⟩ := x;⟨o,n,k o e,d⟩
section
variable {w : World} {A : Around} {E : Value -> Shared -> Prop} {s : Shared}
theorem next_item {it l : Addr} {i : Nat} {items : Array Value} {x : Value} {Q : Option Value -> Shared -> Prop} (hit : s.heap.IsListIter it l i) (hl : SeqAt s.heap l items) (hx : items[i]? = some x)
  (hQ : ∀ h',h'.IsListIter it l (i + 1) -> Heap.SameBut it s.heap h' -> Q (some x) { s with heap := h' }) : wpAny (model PR w) A (pyNext (.ref it)) Q E s := by
 obtain ⟨o,ho,hc,hd⟩ := id hit
 obtain ⟨ol,nl,hol,hdl⟩ := hl
 unfold pyNext
 refine wpAny_bind (wpAny_attempt (wpAny_callSpecial?_slot (name := ofString "__next__") hit.typeIs slot_listiter_next (wpAny_call_entry slot_listiter_next hit.typeIs entry_listiter_next ?_ (args_listiter_next _))))
 show wpAny _ _ (field (.ref it) 0 >>= _) _ _ s
 refine wpAny_bind (wpAny_field ho hd (x := .ref l) rfl ?_)
 show wpAny _ _ (if (Value.ref l == Value.none) = true then _ else _) _ _ s
 rw [if_neg (show ¬ ((Value.ref l == Value.none) = true) from Bool.false_ne_true)]
 show wpAny _ _ (field (.ref it) 1 >>= _) _ _ s
 refine wpAny_bind (wpAny_field ho hd (x := .int i 0) rfl ?_)
 show wpAny _ _ (seqItems? (.ref l) >>= _) _ _ s
 refine wpAny_bind (wpAny_seqItems hol hdl ?_)
 simp only [Int.toNat_natCast,hx]
 refine wpAny_bind (wpAny_setField ho hd (by simp) (wpAny_pure ⟨x,rfl,wpAny_pure (hQ _ ?_ (Heap.SameBut.update ..))⟩))
 exact ⟨_,Heap.get?_update_self _ ho (Obj.isFreed_of_fields (Obj.data_mapFields hd _)),(Obj.cls_mapFields ..).trans hc,by
  rw [Obj.data_mapFields hd];simp [rawInt]⟩
theorem next_end {it l : Addr} {i : Nat} {items : Array Value} {Q : Option Value -> Shared -> Prop} (hh : A.handled = none) (hit : s.heap.IsListIter it l i) (hl : SeqAt s.heap l items) (hx : items[i]? = none)
  (hQ : ∀ h',Heap.ExtBut it s.heap h' -> Q none { s with heap := h' }) : wpAny (model PR w) A (pyNext (.ref it)) Q E s := by
 revert w A E s it l i items Q;intros w A E s it l i items Q hh hit hl hx hQ
 obtain @⟨o,ho,hc,hd⟩ := id hit
 obtain @⟨ol,nl,hol,hdl⟩ := hl
 unfold pyNext
 refine wpAny_bind (wpAny_attempt (wpAny_callSpecial?_slot (name := ofString "__next__") hit.typeIs slot_listiter_next (wpAny_call_entry slot_listiter_next hit.typeIs entry_listiter_next ?_ (args_listiter_next _))))
 show wpAny _ _ (field (.ref it) 0 >>= _) _ _ s
 refine wpAny_bind (wpAny_field ho hd (x := .ref l) rfl ?_)
 show wpAny _ _ (if (Value.ref l == Value.none) = true then _ else _) _ _ s
 rw [if_neg (show ¬ ((Value.ref l == Value.none) = true) from Bool.false_ne_true)]
 show wpAny _ _ (field (.ref it) 1 >>= _) _ _ s
 refine wpAny_bind (wpAny_field ho hd (x := .int i 0) rfl ?_)
 show wpAny _ _ (seqItems? (.ref l) >>= _) _ _ s
 refine wpAny_bind (wpAny_seqItems hol hdl ?_)
 simp only [Int.toNat_natCast,hx]
 refine wpAny_bind (wpAny_rule (wpAny_bind (wpAny_setField ho hd (by simp) ?_)))
 show wpAny _ _ (newExc (.type "StopIteration") [] >>= _) _ _ _
 refine wpAny_bind ?_
 simp only [newExc,newTuple]
 refine wpAny_bind (wpAny_newObj_type ?_ (by size_fits))
 refine wpAny_bind (m := firstArgMember _ _) (wpAny_of_eq (a := Value.none) (by first | rfl | (simp only [firstArgMember];rfl)) ?_)
 refine wpAny_newObj_type ?_ (by size_fits)
 simp only [raiseNew]
 refine wpAny_bind (wpAny_handled ?_)
 rw [show A.in1.handled = none from hh]
 refine wpAny_bind (wpAny_pure (wpAny_throw ?_))
 refine wpAny_bind (wpAny_isInstance (T := "StopIteration") (b := true) ⟨_,Heap.get?_push_size _ rfl,rfl⟩ isSubtype_stop ?_)
 exact wpAny_pure (hQ _ (((Heap.SameBut.update ..).extBut.push _).push _))
theorem walksA (hh : A.handled = none) (I ax : Addr) (hne : ax ≠ I) (items : Array Value) (Ts : Nat -> Addr) (vals : Nat -> Array Value) (hit : ∀ j,j < items.size -> items[j]? = some (.ref (Ts j))) (hTI : ∀ j,j < items.size -> Ts j ≠ I) :
  WalksU PR w A I (I :: ax :: (List.range items.size).map Ts) [I] items.size (fun j v => j < items.size ∧ v = vals j)
   (fun j h => h.IsListIter I ax j ∧ SeqAt h ax items ∧ ∀ k,k < items.size -> h.IsTuple (Ts k) (vals k))
   (fun j T h => (j < items.size ∧ T = Ts j) ∧ h.IsListIter I ax (j + 1) ∧ SeqAt h ax items ∧ ∀ k,k < items.size -> h.IsTuple (Ts k) (vals k)) where
 sub := fun b hb => by simp at hb;simp [hb]
 frame := fun _ _ _ st hk => ⟨st.1.at fun o e => hk I (by simp) o e,st.2.1.at_ fun o e => hk ax (by simp) o e,
  fun k hk' => (st.2.2 k hk').at fun o e => hk (Ts k) (List.mem_cons_of_mem _ (List.mem_cons_of_mem _ (List.mem_map.mpr ⟨k,List.mem_range.mpr hk',rfl⟩))) o e⟩
 item := fun i s Q E hi st hQ => by
  refine next_item st.1 st.2.1 (x := .ref (Ts i)) (hit i hi) fun h' hit' hs' => ?_
  have tup : ∀ k,k < items.size -> h'.IsTuple (Ts k) (vals k) := fun k hk' => (st.2.2 k hk').extBut hs'.extBut (hTI k hk')
  exact hQ (Ts i) (vals i) h' s.toks ⟨hi,rfl⟩ (tup i hi) ⟨⟨hi,rfl⟩,hit',st.2.1.at_ fun o e => hs'.extBut ax o hne e,tup⟩ fun b o hb e => hs'.extBut b o (fun h => hb (by simp [h])) e
 go := fun _ _ _ _ _ s Q _ hm hQ => wpAny_letOwnedTupleGo_listiter hm.2.1 (hQ s.heap hm.2 fun _ _ _ e => e)
 apart := fun j T _ hm hmem => by
  rcases List.mem_cons.mp hmem with e | e
  ·exact hTI j hm.1.1 (hm.1.2 ▸ e)
  ·cases e
 done := fun s Q E st hQ => next_end hh st.1 st.2.1 (by simp) fun h' he' => hQ h' s.toks fun b o hb e => he' b o (fun h => hb (by simp [h])) e
 self := fun _ _ _ _ st hQ => wpAny_pyIter_listiter st.1 hQ
end
end
section
section
variable {w : World} {A : Around} {E : Value -> Shared -> Prop} {h : Heap} {g : Array GenState} {d : Drawn} {t : Nat} {os : OsState} {x dx : Addr} {od : Option Obj}
theorem iterA {items : Array Value} {n : Nat} {Q : Value -> Shared -> Prop} (X : (hd.heap_1 w.params).In h) (I : InstAt h x ⟨.ref 178,some dx,.seq items n,#[]⟩ 178 od)
  (q : Q (.ref h.objs.size) ⟨h.push { cls := .type "list_iterator",data := .fields #[.ref x,.int 0 0] },g,d,t,os⟩) : wpAny (model PR w) A (pyIter (.ref x)) Q E ⟨h,g,d,t,os⟩ := by
 revert w A E h g d t os x dx od items n Q;intros w A E h g d t os x dx od items n Q X I q
 have L1 : Looks (model PR w) h (specialOf (.ref x) "__iter__") (some (.builtin "list.__iter__")) := (I.type (M := model PR w)).andThen (looks_findIn X (show findIn (hd.heap_1 w.params) (.ref 178) (ofString "__iter__") = some (some (.builtin "list.__iter__")) by k_is))
 have hc : wpAny (model PR w) A (call (.builtin "list.__iter__") [.ref x]) (fun it s' => wpAny (model PR w) A (do
   match ← specialOf it "__next__" with
   | none => rule "iter.non-iterator";raiseError "TypeError" s!"iter() returned non-iterator of type '{← typeNameOf it}'"
   | some _ => pure it) Q E s') E ⟨h,g,d,t,os⟩ := by
  refine call_listslot (s := ⟨h,g,d,t,os⟩) X I (show mroIn (hd.heap_1 w.params) 178 (.type "list") = some true by k_is) slot_list_iter.plain entry_list_iter kind_liter split_liter (args_list_iter _) ?_
  show wpAny _ _ (do ret (← newFields "list_iterator" [.ref x,rawInt 0])) _ _ _
  refine wpAny_bind (wpAny_newObj_type (s := ⟨h,g,d,t,os⟩) (wpAny_pure ⟨_,rfl,?_⟩))
  exact wpAny_bind (wpAny_specialOf (T := "list_iterator") ⟨_,Heap.get?_push_size _ rfl,rfl⟩ slot_listiter_next.lookup (wpAny_pure q))
 unfold pyIter
 refine wpAny_bind (L1.at ?_)
 show wpAny _ A (callSpecialIfBoundUnlessNone? (.ref x) "__iter__" _ >>= _) Q E _
 refine wpAny_bind ?_
 simp only [callSpecialIfBoundUnlessNone?,bindSpecialIfBound?]
 refine wpAny_holding (wpAny_bind (wpAny_bind (L1.at ?_)))
 simp only [slot_list_iter.bind]
 refine wpAny_bind (wpAny_askSetting (wpAny_ite ?_))
 split
 ·refine wpAny_bind (wpAny_pure (wpAny_pure ?_))
  refine wpAny_bind (wpAny_mono hc (fun v s' h' => wpAny_pure h') fun _ _ h' => h')
 ·refine wpAny_tryCatch (wpAny_bind (wpAny_pure (wpAny_pure ?_)))
  refine wpAny_bind (wpAny_mono hc (fun v s' h' => wpAny_pure h') fun _ _ h' => h')
end
end
section
noncomputable abbrev DE := Str × Tok × Value
noncomputable def ents (P : Params) (l : List DE) : List DictEntry := l.map fun q => ⟨PyData.keyHash P q.1,.str q.1 q.2.1,q.2.2⟩
noncomputable def getT (x : Str) : List DE -> Option Value
 | [] => none
 | q :: r => if q.1 == x then some q.2.2 else getT x r
noncomputable def putT (x : Str) (t : Tok) (v : Value) : List DE -> List DE
 | [] => [(x,t,v)]
 | q :: r => if q.1 == x then (q.1,q.2.1,v) :: r else q :: putT x t v r
noncomputable def delT (x : Str) : List DE -> List DE
 | [] => []
 | q :: r => if q.1 == x then r else q :: delT x r
theorem isStr_eq' {x y : Str} {t : Tok} : (Value.str y t).isStr x = (y == x) := by simp [Value.isStr]
theorem ents_find (P : Params) (x : Str) : ∀ l : List DE,((ents P l).find? (·.key.isStr x)).map (·.val) = getT x l
 | [] => rfl
 | q :: r => by
  have ih := ents_find P x r
  unfold ents at ih ⊢
  rw [List.map_cons,List.find?_cons]
  dsimp only
  rw [isStr_eq']
  unfold getT
  cases q.1 == x with
  | true => rfl
  | false => simpa using ih
theorem ents_refs (P : Params) : ∀ l : List DE,(ents P l).any (·.refKey) = false
 | [] => rfl
 | q :: r => by
  have ih := ents_refs P r
  unfold ents at ih ⊢
  rw [List.map_cons,List.any_cons,ih];rfl
theorem ents_get (P : Params) (x : Str) (l : List DE) : getL x (ents P l) = some (getT x l) := by
 rw [getL_eq,ents_find,ents_refs]
 cases getT x l <;> rfl
theorem ents_put (P : Params) (x : Str) (t : Tok) (v : Value) : ∀ l : List DE,putL x (PyData.keyHash P x) (.str x t) v (ents P l) = ents P (putT x t v l)
 | [] => rfl
 | q :: r => by
  have ih := ents_put P x t v r
  unfold ents at ih ⊢
  rw [List.map_cons]
  unfold putL putT
  dsimp only
  rw [isStr_eq']
  cases q.1 == x with
  | true => rfl
  | false => simp only [Bool.false_eq_true,if_false,List.map_cons];rw [ih]
theorem ents_del (P : Params) (x : Str) (l : List DE) (n : Nat) : ∃ n',Obj.dropName x (dictOf (ents P l) n) = dictOf (ents P (delT x l)) n' := by
 revert P x l n;intros P x l n
 rw [Obj.dropName_eq]
 unfold Obj.dropNameByArray dictOf
 simp only [List.findIdx?_toArray]
 have key : ∀ l : List DE,match (ents P l).findIdx? (fun e => e.key.isStr x) with | some i => (ents P l).eraseIdx i = ents P (delT x l) | none => ents P l = ents P (delT x l) := by
  intros l
  induction l with
  | nil => rfl
  | cons q r ih =>
   unfold ents at ih ⊢
   rw [List.map_cons,List.findIdx?_cons]
   dsimp only
   rw [isStr_eq']
   unfold delT
   cases q.1 == x with
   | true => simp
   | false =>
    simp only [Bool.false_eq_true,if_false,List.map_cons]
    cases hh : List.findIdx? (fun e => e.key.isStr x) (List.map (fun q : DE => (⟨PyData.keyHash P q.1,.str q.1 q.2.1,q.2.2⟩ : DictEntry)) r) with
    | none => rw [hh] at ih;simp only [Option.map_none];rw [ih]
    | some i => rw [hh] at ih;simp only [Option.map_some,List.eraseIdx_cons_succ];rw [ih]
 have k := key l
 cases hh : List.findIdx? (fun e => e.key.isStr x) (ents P l) with
 | none => rw [hh] at k;dsimp only at k;exact ⟨n,by rw [← k]⟩
 | some i => rw [hh] at k;dsimp only at k;exact ⟨n + 1,by dsimp only;rw [← k];simp⟩
theorem getT_any (P : Params) (x : Str) (l : List DE) : (ents P l).any (·.key.isStr x) = (getT x l).isSome := by
 rw [← ents_find P x l,Option.isSome_map,Bool.eq_iff_iff,List.any_eq_true,List.find?_isSome]
section
variable {w : World} {A : Around} {E : Value -> Shared -> Prop} {s : Shared} {a : Addr} {l : List DE} {n : Nat} {x : Str} {v : Value}
theorem nsGet_T {Q : Option Value -> Shared -> Prop} (ho : s.heap.get? a = some (dictOf (ents w.params l) n)) (h : Q (getT x l) s) : wpAny (model PR w) A (nsGet a x) Q E s := by
 unfold nsGet
 refine wpAny_bind (wpAny_loadPart ho ?_)
 rw [nsLook_of (show lookIn x (dictOf (ents w.params l) n) = some (getT x l) from ents_get _ _ _)]
 exact wpAny_pure h
theorem nsSet_T {Q : Unit -> Shared -> Prop} (ho : s.heap.get? a = some (dictOf (ents w.params l) n))
  (h : ∀ h' n',Heap.SameBut a s.heap h' -> h'.get? a = some (dictOf (ents w.params (putT x s.toks v l)) n') -> Q () { s with heap := h',toks := s.toks + 1 }) :
  wpAny (model PR w) A (nsSet a x v) Q E s := by
 unfold nsSet
 refine wpAny_bind (wpAny_bind (wpAny_askSetting (wpAny_pure (wpAny_bind (wpAny_mkText (wpAny_bind (wpAny_loadPart ho ?_)))))))
 dsimp only
 have c : aRefKeyMayBeTheName x (ents w.params l).toArray = false := by
  rw [aRefKeyMayBeTheName_at,← Array.any_toList,← Array.any_toList,List.toList_toArray,ents_refs,Bool.and_false]
 rw [c]
 refine wpAny_updatePart ho (h _ (putN x (ents w.params l) n) (Heap.SameBut.update ..) ?_)
 have e : Obj.putName x (PyData.keyHash w.params x) (.str x s.toks) v (dictOf (ents w.params l) n) = dictOf (ents w.params (putT x s.toks v l)) (putN x (ents w.params l) n) := by
  rw [putName_dict,ents_put]
 rw [← e]
 exact Heap.get?_update_self _ ho (by show (Obj.putName x (PyData.keyHash w.params x) (.str x s.toks) v (dictOf (ents w.params l) n)).isFreed = false;rw [e];rfl)
theorem nsDel_T {Q : Bool -> Shared -> Prop} (ho : s.heap.get? a = some (dictOf (ents w.params l) n))
  (h : (getT x l).isSome = true -> ∀ h' n',Heap.SameBut a s.heap h' -> h'.get? a = some (dictOf (ents w.params (delT x l)) n') -> Q true { s with heap := h' })
  (h0 : (getT x l).isSome = false -> Q false s) : wpAny (model PR w) A (nsDel a x) Q E s := by
 unfold nsDel
 refine wpAny_bind (wpAny_loadPart ho ?_)
 have e : nsHas x (dictOf (ents w.params l) n) = pure (getT x l).isSome := by
  rw [nsHas_eq]
  unfold nsHasByArray
  dsimp only
  rw [← Array.any_toList,← Array.any_toList,List.toList_toArray,ents_refs,getT_any]
  cases (getT x l).isSome <;> rfl
 rw [e]
 refine wpAny_bind (wpAny_pure ?_)
 cases q : (getT x l).isSome with
 | false => exact wpAny_pure (h0 q)
 | true =>
  simp only [if_true]
  obtain ⟨n',e'⟩ := ents_del w.params x l n
  refine wpAny_bind (wpAny_updatePart ho (wpAny_pure (h q _ n' (Heap.SameBut.update ..) ?_)))
  rw [← e']
  exact Heap.get?_update_self _ ho (by rw [e'];rfl)
end
end
section
structure CT (h : Heap) (c P : Addr) (ps : Array Value) : Prop where
 hd : CodeHd h c P
 tab : h.get? P = some (tabObj ps)
 ok : TriplesOk ps.toList
theorem codeHd_ne {h : Heap} {c P : Addr} (x : CodeHd h c P) : c ≠ P := by
 obtain ⟨_,_,_,_,_,_,_,_,_,_,_,_,_,_,_,_,_,_,q⟩ := x;exact q
theorem codeHd_at {h h' : Heap} {c P : Addr} (x : CodeHd h c P) (k : ∀ o,h.get? c = some o -> h'.get? c = some o) : CodeHd h' c P :=
 let ⟨o,vs,file,tf,flags,tg,inF,text,tt,e,r⟩ := x;⟨o,vs,file,tf,flags,tg,inF,text,tt,k _ e,r⟩
section
variable {M : Model} {A : Around} {E : Value -> Shared -> Prop} {s : Shared}
theorem code_new {env : Env} {c P : Addr} {ps : Array Value} {pos : Pos} {make : CodeContext -> Sem Value} {qual : Str} {Q : Value -> Shared -> Prop} (hc : env.code = .ref c) (C : CT s.heap c P ps) (hnf : codeAmong pos ps.toList = none)
  (hmake : ∀ ctx,∃ name fl ac po kw fg fr isF pa lo te,make ctx = newCode ctx name qual fl ac po kw fg fr isF pa lo te)
  (h : ∀ c' P' h' tk,Heap.ExtBut P s.heap h' -> s.heap.objs.size ≤ c' -> s.heap.objs.size ≤ P' -> h'.get? P = some (tabObj (ps ++ #[rawInt pos.line,rawInt pos.col,.ref c'])) -> CT h' c' P' #[] -> h'.CodeRec (.ref c') qual ->
   Q (.ref c') { s with heap := h',toks := tk }) : wpAny M A (codeAt env pos make) Q E s := by
 revert M A E s env c P ps pos make qual Q;intros M A E s env c P ps pos make qual Q hc C hnf hmake h
 obtain ⟨⟨o,vs,file,tf,flags,tg,inF,text,tt,e1,e2,e3,e4,e5,e6,e7,e8,e9,hne⟩,hP,ht⟩ := C
 unfold codeAt
 rw [hc]
 refine wpAny_ite ?_
 rw [if_neg (by simp)]
 refine wpAny_bind (wpAny_fieldsOf e1 e3 ?_)
 rw [e5]
 refine wpAny_bind (wpAny_fieldsOf hP rfl ?_)
 rw [hnf,e6,e7,e8,e9]
 dsimp only
 obtain ⟨name,fl,ac,po,kw,fg,fr,isF,pa,lo,te,hm⟩ := hmake { file,future := flags.toNat &&& (coFutureAnnotations ||| coFutureBarry),inFunction := inF || env.scope.kind == .function,text := text.toNat }
 rw [hm]
 refine wpAny_bind (wpAny_newCodeX fun c' P' h1 tk hk g1 g2 g3 g4 g5 => ?_)
 have hP1 := hk _ _ hP
 refine wpAny_bind (wpAny_updateFieldsOfTheText hP1 rfl ?_)
 generalize hF : (Obj.mapFields (fun vs => if (codeAmong pos vs.toList).isSome = true then vs else vs ++ #[rawInt pos.line,rawInt pos.col,.ref c'])) = f
 have hv : f (tabObj ps) = tabObj (ps ++ #[rawInt pos.line,rawInt pos.col,.ref c']) := by
  rw [← hF];simp only [Obj.mapFields,hnf];rfl
 have hP2 : (h1.update P f).get? P = some (tabObj (ps ++ #[rawInt pos.line,rawInt pos.col,.ref c'])) := by
  rw [← hv];exact Heap.get?_update_self _ hP1 (by rw [hv];rfl)
 have sb : Heap.SameBut P h1 (h1.update P f) := Heap.SameBut.update ..
 have hcP : c' ≠ P := Nat.ne_of_gt (Nat.lt_of_lt_of_le (Heap.lt_size hP) g1)
 have hPP : P' ≠ P := Nat.ne_of_gt (Nat.lt_of_lt_of_le (Heap.lt_size hP) g2)
 have hpush : (ps ++ #[rawInt pos.line,rawInt pos.col,.ref c']).toList = ps.toList ++ [rawInt pos.line,rawInt pos.col,.ref c'] := by simp
 have fin' : Q (.ref c') { s with heap := h1.update P f,toks := tk } := h c' P' _ tk (fun b o' nb e => sb.extBut b o' nb (hk b o' e)) g1 g2 hP2
  ⟨codeHd_at (CodeHd.of g3 g4) fun o' e => sb.extBut _ _ hcP e,sb.extBut _ _ hPP g4.2,trivial⟩
  (let ⟨c₂,o₂,vs₂,t₂,x1,x2,x3⟩ := g5;⟨c₂,o₂,vs₂,t₂,x1,sb.extBut _ _ (by cases x1;exact hcP) x2,x3⟩)
 refine wpAny_bind (wpAny_fieldsOf hP2 rfl ?_)
 rw [hpush,codeAmong_snoc _ ht hnf]
 exact wpAny_pure fin'
end
end
section
theorem type_object : typeOf (.type "object") = pure (.type "type") := by first | rfl | kernel_rfl
theorem sub_tt : isSubtype (.type "type") (.type "type") = pure true := by rw [isSubtype_type];kernel_rfl
theorem hook_type : Builtin.mroHook? (.type "type") = pure none := by unfold Builtin.mroHook?;rw [typeLookup_type,builtinLookup_eq_fast];kernel_rfl
theorem lin_obj : Builtin.linearize [.type "object"] mroOf = pure [.type "object"] := by kernel_rfl
theorem made_obj : Bind.madeBy (.type "object") = pure (some "object.__new__") := by kernel_rfl
theorem gw_obj : Builtin.Slots.givesWeak (.type "object") = pure false := by kernel_rfl
theorem gd_obj : Builtin.Slots.givesDict (.type "object") = pure false := by kernel_rfl
theorem vs_obj : Builtin.Slots.varSize (.type "object") = pure false := by kernel_rfl
theorem bb_obj : Builtin.Slots.bestBase [.type "object"] = pure (.type "object") := by kernel_rfl
theorem sn_obj : Builtin.Slots.slotNamesOf (.type "object") = pure [] := by kernel_rfl
theorem note_obj (a : Addr) : Builtin.noteSubclassOfBuiltin "object" a = pure () := by kernel_rfl
theorem ident_obj : Builtin.Slots.isIdentifier (ofString "obj") = some true := by decide +kernel
theorem mangle_obj : Builtin.Slots.mangle (ofString "K") (ofString "obj") = ofString "obj" := by decide +kernel
theorem iter_dict : typeLookup (.type "dict") "__iter__" = pure (some (.builtin "dict.__iter__")) := by rw [typeLookup_type,builtinLookup_eq_fast];kernel_rfl
theorem gi_dict : typeLookup (.type "dict") "__getitem__" = pure (some (.builtin "dict.__getitem__")) := by rw [typeLookup_type,builtinLookup_eq_fast];kernel_rfl
theorem sn_str : typeLookup (.type "str") "__set_name__" = pure none := by rw [typeLookup_type,builtinLookup_eq_fast];kernel_rfl
theorem sn_int : typeLookup (.type "int") "__set_name__" = pure none := by rw [typeLookup_type,builtinLookup_eq_fast];kernel_rfl
theorem sn_list : typeLookup (.type "list") "__set_name__" = pure none := by rw [typeLookup_type,builtinLookup_eq_fast];kernel_rfl
theorem sn_tuple : typeLookup (.type "tuple") "__set_name__" = pure none := by rw [typeLookup_type,builtinLookup_eq_fast];kernel_rfl
theorem sn_fn : typeLookup (.type "function") "__set_name__" = pure none := by rw [typeLookup_type,builtinLookup_eq_fast];kernel_rfl
theorem sn_none : typeLookup (.type "NoneType") "__set_name__" = pure none := by rw [typeLookup_type,builtinLookup_eq_fast];kernel_rfl
theorem sn_mem : typeLookup (.type "member_descriptor") "__set_name__" = pure none := by rw [typeLookup_type,builtinLookup_eq_fast];kernel_rfl
section
variable {M : Model} {A : Around} {E : Value -> Shared -> Prop} {s : Shared}
theorem wp_for1 {α β : Type} {f : α -> β -> Sem (ForInStep β)} {x : α} {b : β} {Q : β -> Shared -> Prop} (h : wpAny M A (f x b) (fun r s' => ∃ b',r = .yield b' ∧ Q b' s') E s) : wpAny M A (forIn [x] b f) Q E s := by
 rw [List.forIn_cons]
 refine wpAny_bind (wpAny_mono h (fun r s' q => ?_) fun _ _ x => x)
 obtain ⟨b',rfl,hq⟩ := q
 exact wpAny_pure hq
theorem wp_forA1 {α β : Type} {f : α -> β -> Sem (ForInStep β)} {x : α} {arr : Array α} {b : β} {Q : β -> Shared -> Prop} (e : arr.toList = [x]) (h : wpAny M A (f x b) (fun r s' => ∃ b',r = .yield b' ∧ Q b' s') E s) : wpAny M A (forIn arr b f) Q E s := by
 rw [← Array.forIn_toList,e];exact wp_for1 h
end
section
variable {w : World} {A : Around} {s : Shared}
theorem slots_read {l : List DE} {lst : Addr} {t : Tok} {Q : Builtin.Slots.Plan -> Shared -> Prop} (hs : getT (ofString "__slots__") l = some (.ref lst)) (hL : s.heap.IsList lst #[.str (ofString "obj") t]) (hno : getT (ofString "obj") l = none)
  (h : ∀ h',(∀ b o,s.heap.get? b = some o -> h'.get? b = some o) -> Q { names := [ofString "obj"],dict := false,weak := false,inherited := [] } { s with heap := h' }) :
  wpAny (model PR w) A (Builtin.Slots.read (ofString "K") [.type "object"] (ents w.params l).toArray) Q NoE s := by
 revert w A s l lst t Q;intros w A s l lst t Q hs hL hno h
 unfold Builtin.Slots.read
 refine wpAny_bind (wpAny_of_eq bb_obj (wpAny_bind (wpAny_of_eq sn_obj (wpAny_bind (wpAny_of_eq gd_obj (wpAny_bind (wpAny_of_eq gw_obj (wpAny_bind (wpAny_of_eq vs_obj ?_)))))))))
 have hf : ∃ e,(ents w.params l).toArray.find? (fun x => x.key.isStr (ofString "__slots__")) = some e ∧ e.val = .ref lst := by
  have := ents_find w.params (ofString "__slots__") l
  rw [hs] at this
  obtain @⟨e,h1,h2⟩ := Option.map_eq_some_iff.mp this
  exact ⟨e,by simpa using h1,h2⟩
 obtain @⟨e,he,hv⟩ := hf
 rw [he]
 dsimp only
 rw [hv]
 refine wpAny_bind (wpAny_rule ?_)
 obtain @⟨oL,eo,hc,n,hd⟩ := hL
 refine wpAny_bind (wpAny_bind (wpAny_load eo ?_))
 rw [hd]
 dsimp only
 refine wpAny_pure ?_
 simp only [Option.isSome_none,Bool.false_eq_true,if_false]
 refine wpAny_bind (wpAny_collect_seq lst (.inl rfl) eo hc hd fun h1 k1 => ?_)
 dsimp only
 have hany : ∀ x : Str,(ents w.params l).toArray.any (fun e => e.key.isStr x) = (getT x l).isSome := fun x => by rw [← getT_any w.params x l,← Array.any_toList]
 simp only [hany]
 refine wpAny_bind (wpAny_of_eq vs_obj ?_)
 obtain @⟨hh,g,d,tk,os⟩ := s
 repeat (first | with_reducible refine wp_for1 ?_ | lk)
 rw [ident_obj]
 repeat (first | ((with_reducible refine wp_forA1 (x := ofString "obj") ?he ?_);(case he => exact Array.toList_push ..)) | with_reducible refine wp_for1 ?_ | with_reducible refine wpAny_pure ?_ | with_reducible refine ⟨_,rfl,?_⟩ | lk)
 rw [mangle_obj,hno]
 repeat (first | ((with_reducible refine wp_forA1 (x := ofString "obj") ?he ?_);(case he => exact Array.toList_push ..)) | with_reducible refine wp_for1 ?_ | with_reducible refine wpAny_pure ?_ | with_reducible refine ⟨_,rfl,?_⟩ | lk)
 exact h h1 k1
end
end
section
theorem getT_put_other {x y : Str} (hxy : y ≠ x) (t : Tok) (v : Value) : ∀ l : List DE,getT y (putT x t v l) = getT y l
 | [] => by
  have : (x == y) = false := by simpa using Ne.symm hxy
  simp [putT,getT,this]
 | q :: r => by
  unfold putT
  split
  ·rename_i h
   have hq : q.1 = x := by simpa using h
   have : (x == y) = false := by simpa using Ne.symm hxy
   simp [getT,hq,this]
  ·unfold getT
   rw [getT_put_other hxy t v r]
theorem getT_put_self {x : Str} (t : Tok) (v : Value) : ∀ l : List DE,getT x (putT x t v l) = some v
 | [] => by simp [putT,getT]
 | q :: r => by
  unfold putT
  split
  ·rename_i h;simp [getT,h]
  ·rename_i h;simp [getT,h,getT_put_self t v r]
theorem getT_del_other {x y : Str} (hxy : y ≠ x) : ∀ l : List DE,getT y (delT x l) = getT y l
 | [] => rfl
 | q :: r => by
  unfold delT
  split
  ·rename_i h
   have hq : q.1 = x := by simpa using h
   have : (x == y) = false := by simpa using Ne.symm hxy
   simp [getT,hq,this]
  ·unfold getT
   rw [getT_del_other hxy r]
theorem mem_put {x : Str} {t : Tok} {v : Value} {q : DE} : ∀ {l : List DE},q ∈ putT x t v l -> q.2.2 = v ∨ q ∈ l
 | [],h => by simp [putT] at h;exact .inl (by rw [h])
 | p :: r,h => by
  unfold putT at h
  split at h
  ·rcases List.mem_cons.mp h with h | h
   ·exact .inl (by rw [h])
   ·exact .inr (List.mem_cons_of_mem _ h)
  ·rcases List.mem_cons.mp h with h | h
   ·exact .inr (by rw [h];exact List.mem_cons_self ..)
   ·exact (mem_put h).imp id fun z => List.mem_cons_of_mem _ z
theorem mem_del {x : Str} {q : DE} : ∀ {l : List DE},q ∈ delT x l -> q ∈ l
 | [],h => h
 | p :: r,h => by
  unfold delT at h
  split at h
  ·exact List.mem_cons_of_mem _ h
  ·rcases List.mem_cons.mp h with h | h
   ·rw [h];exact List.mem_cons_self ..
   ·exact List.mem_cons_of_mem _ (mem_del h)
theorem len_put {x : Str} {t : Tok} {v : Value} : ∀ l : List DE,(putT x t v l).length ≤ l.length + 1
 | [] => by simp [putT]
 | p :: r => by
  unfold putT
  split
  ·simp
  ·have := len_put (x := x) (t := t) (v := v) r;simp;omega
theorem len_del {x : Str} : ∀ l : List DE,(delT x l).length ≤ l.length
 | [] => by simp [delT]
 | p :: r => by
  unfold delT
  split
  ·simp
  ·have := len_del (x := x) r;simp;omega
section
variable {M : Model} {A : Around} {E : Value -> Shared -> Prop} {s : Shared}
theorem set_slot {a : Addr} {i : Nat} {v : Option Value} {o : Obj} {Q : Unit -> Shared -> Prop} (ho : s.heap.get? a = some o) (hi : i < 100) (hf : o.isFreed = false)
  (h : ∀ h',Heap.SameBut a s.heap h' -> h'.get? a = some { o with slots := (o.slots ++ Array.replicate (i + 1 - o.slots.size) none).setIfInBounds i v } -> Q () { s with heap := h' }) : wpAny M A (setSlotAt a i v) Q E s := by
 unfold setSlotAt
 have hn : ¬ i ≥ sizeLine := by rw [sizeLine_eq];omega
 simp only [hn,if_false]
 refine wpAny_bind (wpAny_pure (wpAny_updatePart ho (h _ (Heap.SameBut.update ..) (Heap.get?_update_self _ ho ?_))))
 obtain ⟨c,d,dt,sl⟩ := o
 unfold Obj.isFreed at hf ⊢
 cases dt <;> first | rfl | exact hf | simp_all
theorem upd_cls {a : Addr} {f : ClassData -> ClassData} {c : Value} {d : Option Addr} {cd : ClassData} {sl : Array (Option Value)} {Q : Unit -> Shared -> Prop} (ho : s.heap.get? a = some ⟨c,d,.cls cd,sl⟩) (hp : (Data.cls (f cd)).pastItsLine = none)
  (h : ∀ h',Heap.SameBut a s.heap h' -> h'.get? a = some ⟨c,d,.cls (f cd),sl⟩ -> Q () { s with heap := h' }) : wpAny M A (updateCls a f) Q E s := by
 unfold updateCls
 refine wpAny_bind (wpAny_load ho ?_)
 have e : Obj.mapCls f ⟨c,d,.cls cd,sl⟩ = ⟨c,d,.cls (f cd),sl⟩ := rfl
 have g := Heap.get?_update_self (h := s.heap) (Obj.mapCls f) ho (by rw [e];rfl)
 rw [e] at g
 exact wpAny_bind (wpAny_update ho (wpAny_lookBehind (o := ⟨c,d,.cls (f cd),sl⟩) g hp (h _ (Heap.SameBut.update ..) g)))
end
noncomputable def NoSN (M : Model) (h : Heap) (v : Value) : Prop := Looks M h (specialOf v "__set_name__") none ∧ ∀ x,Builtin.heldUnderItsOwnName x v = false
theorem NoSN.keeps {M : Model} {h h' : Heap} {v : Value} (x : NoSN M h v) (k : ∀ b o,h.get? b = some o -> h'.get? b = some o) : NoSN M h' v := ⟨x.1.keeps k,x.2⟩
theorem nosn_str {M : Model} {h : Heap} {x : Str} {t : Tok} : NoSN M h (.str x t) := ⟨Looks.of_pure (by unfold specialOf;rw [show typeOf (.str x t) = pure (.type "str") from rfl,pure_bind];exact sn_str),fun _ => rfl⟩
theorem nosn_int {M : Model} {h : Heap} {x : Int} {t : Tok} : NoSN M h (.int x t) := ⟨Looks.of_pure (by unfold specialOf;rw [show typeOf (.int x t) = pure (.type "int") from rfl,pure_bind];exact sn_int),fun _ => rfl⟩
theorem nosn_none {M : Model} {h : Heap} : NoSN M h .none := ⟨Looks.of_pure (by unfold specialOf;rw [show typeOf .none = pure (.type "NoneType") from rfl,pure_bind];exact sn_none),fun _ => rfl⟩
theorem nosn_ref {M : Model} {h : Heap} {a : Addr} {o : Obj} {T : String} (ho : h.get? a = some o) (hc : o.cls = .type T) (hT : typeLookup (.type T) "__set_name__" = pure none) : NoSN M h (.ref a) :=
 ⟨((Looks.ld (part := none) ho).andThen (by rw [hc];exact .now)).andThen (Looks.of_pure hT),fun _ => rfl⟩
end
section
section
variable {M : Model} {A : Around} {E : Value -> Shared -> Prop} {s : Shared}
noncomputable abbrev FIS {β : Type} (Q : β -> Shared -> Prop) : ForInStep β -> Shared -> Prop := fun r s' => match r with | .yield b => Q b s' | .done b => Q b s'
theorem wq_for1 {α β : Type} {f : α -> β -> Sem (ForInStep β)} {x : α} {b : β} {Q : β -> Shared -> Prop} (h : wpAny M A (f x b) (FIS Q) E s) : wpAny M A (forIn [x] b f) Q E s := by
 rw [List.forIn_cons]
 refine wpAny_bind (wpAny_mono h (fun r s' q => ?_) fun _ _ x => x)
 cases r <;> exact wpAny_pure q
theorem wp_ifn {α : Type} {c : Prop} [Decidable c] {a b : Sem α} {Q : α -> Shared -> Prop} (hc : ¬ c) (h : wpAny M A b Q E s) : wpAny M A (if c then a else b) Q E s := by rw [if_neg hc];exact h
theorem wp_ifp {α : Type} {c : Prop} [Decidable c] {a b : Sem α} {Q : α -> Shared -> Prop} (hc : c) (h : wpAny M A a Q E s) : wpAny M A (if c then a else b) Q E s := by rw [if_pos hc];exact h
theorem wp_eq {α : Type} {t : Sem α} {a : α} (h : t = pure a) {Q : α -> Shared -> Prop} (hq : Q a s) : wpAny M A t Q E s := wpAny_of_eq h hq
theorem wp_forInv {α β : Type} {f : α -> β -> Sem (ForInStep β)} {b : β} {Q : β -> Shared -> Prop} : ∀ {l : List α},(∀ x ∈ l,∀ Q' : ForInStep β -> Shared -> Prop,Q' (.yield b) s -> wpAny M A (f x b) Q' E s) -> Q b s -> wpAny M A (forIn l b f) Q E s
 | [],_,q => wpAny_pure q
 | x :: l,h,q => by
  rw [List.forIn_cons]
  exact wpAny_bind (h x (List.mem_cons_self ..) _ (wp_forInv (fun y hy => h y (List.mem_cons_of_mem _ hy)) q))
theorem wp_forInvA {α β : Type} {f : α -> β -> Sem (ForInStep β)} {b : β} {Q : β -> Shared -> Prop} {arr : Array α} (h : ∀ x ∈ arr.toList,∀ Q' : ForInStep β -> Shared -> Prop,Q' (.yield b) s -> wpAny M A (f x b) Q' E s) (q : Q b s) : wpAny M A (forIn arr b f) Q E s := by
 rw [← Array.forIn_toList];exact wp_forInv h q
end
section
variable {M : Model} {A : Around} {E : Value -> Shared -> Prop} {s : Shared}
end
section
variable {w : World} {A : Around} {E : Value -> Shared -> Prop} {h : Heap} {g : Array GenState} {d : Drawn} {t : Nat} {os : OsState} {a : Addr} {l : List DE} {n : Nat} {x : Str} {v : Value}
theorem nsGetD {Q : Option Value -> Shared -> Prop} (ho : h.get? a = some (dictOf (ents w.params l) n)) (q : Q (getT x l) ⟨h,g,d,t,os⟩) : wpAny (model PR w) A (nsGet a x) Q E ⟨h,g,d,t,os⟩ := nsGet_T (s := ⟨h,g,d,t,os⟩) ho q
theorem nsGetDn {Q : Option Value -> Shared -> Prop} (ho : h.get? a = some (dictOf (ents w.params l) n)) (e : getT x l = none) (q : Q none ⟨h,g,d,t,os⟩) : wpAny (model PR w) A (nsGet a x) Q E ⟨h,g,d,t,os⟩ := nsGetD ho (by rw [e];exact q)
theorem nsGetDs {Q : Option Value -> Shared -> Prop} (ho : h.get? a = some (dictOf (ents w.params l) n)) (e : getT x l = some v) (q : Q (some v) ⟨h,g,d,t,os⟩) : wpAny (model PR w) A (nsGet a x) Q E ⟨h,g,d,t,os⟩ := nsGetD ho (by rw [e];exact q)
theorem nsSetD {Q : Unit -> Shared -> Prop} (ho : h.get? a = some (dictOf (ents w.params l) n))
  (q : ∀ h' n',Heap.SameBut a h h' -> h'.get? a = some (dictOf (ents w.params (putT x t v l)) n') -> Q () ⟨h',g,d,t + 1,os⟩) : wpAny (model PR w) A (nsSet a x v) Q E ⟨h,g,d,t,os⟩ := nsSet_T (s := ⟨h,g,d,t,os⟩) ho q
theorem nsSetVD {Q : Unit -> Shared -> Prop} (ho : h.get? a = some (dictOf (ents w.params l) n)) (hz : l.length ≤ 1000)
  (q : ∀ h' n',Heap.SameBut a h h' -> h'.get? a = some (dictOf (ents w.params (putT x t v l)) n') -> Q () ⟨h',g,d,t + 1,os⟩) : wpAny (model PR w) A (nsSetByValue a x v) Q E ⟨h,g,d,t,os⟩ := by
 unfold nsSetByValue
 refine wpAny_bind (wpAny_loadPart (s := ⟨h,g,d,t,os⟩) ho ?_)
 dsimp only
 have e : ((ents w.params l).toArray.size > sizeLine && noSuchName x (ents w.params l).toArray) = false := by
  have : ¬ (ents w.params l).toArray.size > sizeLine := by rw [sizeLine_eq];unfold ents;simp;omega
  rw [decide_eq_false this];rfl
 rw [e]
 exact wp_ifn (by decide) (nsSetD ho q)
theorem nsDelD {Q : Bool -> Shared -> Prop} (ho : h.get? a = some (dictOf (ents w.params l) n)) (e : getT x l = some v)
  (q : ∀ h' n',Heap.SameBut a h h' -> h'.get? a = some (dictOf (ents w.params (delT x l)) n') -> Q true ⟨h',g,d,t,os⟩) : wpAny (model PR w) A (nsDel a x) Q E ⟨h,g,d,t,os⟩ :=
 nsDel_T (s := ⟨h,g,d,t,os⟩) ho (fun _ => q) (fun z => by rw [e] at z;cases z)
theorem setSlotD {i : Nat} {v : Option Value} {o : Obj} {Q : Unit -> Shared -> Prop} (ho : h.get? a = some o) (hi : i < 100) (hf : o.isFreed = false)
  (q : ∀ h',Heap.SameBut a h h' -> h'.get? a = some { o with slots := (o.slots ++ Array.replicate (i + 1 - o.slots.size) none).setIfInBounds i v } -> Q () ⟨h',g,d,t,os⟩) : wpAny (model PR w) A (setSlotAt a i v) Q E ⟨h,g,d,t,os⟩ := set_slot (s := ⟨h,g,d,t,os⟩) ho hi hf q
theorem slotD {i : Nat} {o : Obj} {Q : Option Value -> Shared -> Prop} (ho : h.get? a = some o) (q : Q (o.slots[i]?).join ⟨h,g,d,t,os⟩) : wpAny (model PR w) A (slotAt a i) Q E ⟨h,g,d,t,os⟩ := wpAny_bind (wpAny_loadPart (s := ⟨h,g,d,t,os⟩) ho (wpAny_pure q))
theorem updClsD {f : ClassData -> ClassData} {c : Value} {dd : Option Addr} {cd : ClassData} {sl : Array (Option Value)} {Q : Unit -> Shared -> Prop} (ho : h.get? a = some ⟨c,dd,.cls cd,sl⟩) (hp : (Data.cls (f cd)).pastItsLine = none)
  (q : ∀ h',Heap.SameBut a h h' -> h'.get? a = some ⟨c,dd,.cls (f cd),sl⟩ -> Q () ⟨h',g,d,t,os⟩) : wpAny (model PR w) A (updateCls a f) Q E ⟨h,g,d,t,os⟩ := upd_cls (s := ⟨h,g,d,t,os⟩) ho hp q
theorem newObjD {T : String} {data : Data} {dd : Option Addr} {Q : Value -> Shared -> Prop} (hd : sizeOk data) (hf : data ≠ .freed) (q : ∀ h' a,a = h.objs.size -> h' = h.push { cls := .type T,dict := dd,data } -> h.get? a = none -> (∀ b o,h.get? b = some o -> h'.get? b = some o) -> h'.get? a = some { cls := .type T,dict := dd,data } -> Q (.ref a) ⟨h',g,d,t,os⟩) :
  wpAny (model PR w) A (newObj (.type T) data dd) Q E ⟨h,g,d,t,os⟩ :=
 wpAny_newObj_type (s := ⟨h,g,d,t,os⟩) (q _ _ rfl rfl (by
  cases e : h.get? h.objs.size with
  | none => rfl
  | some o => exact absurd (Heap.lt_size e) (Nat.lt_irrefl _)) (fun b o e => Heap.get?_push_of_some _ e) (Heap.get?_push_size _ (by cases data <;> first | rfl | exact absurd rfl hf))) hd
theorem allocD {o : Obj} {Q : Addr -> Shared -> Prop} (hf : o.isFreed = false) (q : ∀ h' a,a = h.objs.size -> h' = h.push o -> h.get? a = none -> (∀ b o,h.get? b = some o -> h'.get? b = some o) -> h'.get? a = some o -> Q a ⟨h',g,d,t,os⟩) :
  wpAny (model PR w) A (alloc o) Q E ⟨h,g,d,t,os⟩ :=
 wpAny_alloc (s := ⟨h,g,d,t,os⟩) (q _ _ rfl rfl (by
  cases e : h.get? h.objs.size with
  | none => rfl
  | some o => exact absurd (Heap.lt_size e) (Nat.lt_irrefl _)) (fun b o e => Heap.get?_push_of_some _ e) (Heap.get?_push_size _ hf))
theorem mkTextD {Q : Value -> Shared -> Prop} (q : Q (.str x t) ⟨h,g,d,t + 1,os⟩) : wpAny (model PR w) A (mkText x) Q E ⟨h,g,d,t,os⟩ := wpAny_mkText (s := ⟨h,g,d,t,os⟩) q
end
end
local macro_rules | `(tactic| walk_at "tn") => `(tactic| first | with_reducible refine wpAny_bind ?_ | with_reducible refine wpAny_pure ?_ | with_reducible refine wpAny_holding ?_ | with_reducible refine wpAny_rule ?_ | k_node | with_reducible refine wp_ifn (by decide +kernel) ?_ | with_reducible refine wp_ifp (by decide +kernel) ?_)
section
theorem isc_type : typeOf (.builtin "object.__init_subclass__") = pure (.type "classmethod_descriptor") := by show builtinType _ = _;rw [builtinType_eq_fast];kernel_rfl
theorem isc_get : typeLookup (.type "classmethod_descriptor") "__get__" = pure (some (.builtin "classmethod_descriptor.__get__")) := by rw [typeLookup_type,builtinLookup_eq_fast];kernel_rfl
theorem slot_cm_get : Slot "classmethod_descriptor" "__get__" "classmethod_descriptor.__get__" := .of (owner := "classmethod_descriptor") (n := "__get__") (by rw [typeLookup_type,builtinLookup_eq_fast];kernel_rfl) (by decide +kernel) (by decide +kernel) (by decide +kernel)
 (.inl (by decide +kernel)) (by rw [isSubtype_type];kernel_rfl)
theorem entry_cm_get : entryFor table "classmethod_descriptor.__get__" = some Builtin.«classmethod_descriptor.__get__» := entryFor_of_tree (by kernel_rfl)
theorem args_cm_get (a b c : Value) : argsOk "classmethod_descriptor.__get__" ⟨[a,b,c],[]⟩ := by unfold argsOk;kernel_rfl
theorem entry_isub : entryFor table "object.__init_subclass__" = some Builtin.«object.__init_subclass__» := entryFor_of_tree (by kernel_rfl)
theorem wq_forE {M : Model} {A : Around} {s : Shared} {E : Value -> Shared -> Prop} {α β : Type} {f : α -> β -> Sem (ForInStep β)} {l l' : List α} {b : β} {Q : β -> Shared -> Prop} (e : l = l') (h : wpAny M A (forIn l' b f) Q E s) : wpAny M A (forIn l b f) Q E s := by subst e;exact h
section
variable {w : World} {A : Around} {E : Value -> Shared -> Prop} {h : Heap} {g : Array GenState} {d : Drawn} {t : Nat} {os : OsState}
theorem super_cls {C : Addr} {oc : Value} {od : Option Addr} {cd : ClassData} {sl : Array (Option Value)} {Q : Value -> Shared -> Prop} (hC : h.get? C = some ⟨oc,od,.cls cd,sl⟩) (hm : cd.mro.contains (.ref C) = true) (hne : cd.mro.isEmpty = false)
  (hq : ∀ h',h'.get? h.objs.size = some { cls := .type "super",dict := none,data := .fields #[.ref C,.ref C,.ref C],slots := #[] } -> (∀ y o,h.get? y = some o -> h'.get? y = some o) -> Q (.ref h.objs.size) ⟨h',g,d,t,os⟩) :
  wpAny (model PR w) A (call (.type "super") [.ref C,.ref C]) Q E ⟨h,g,d,t,os⟩ := by
 revert w A E h g d t os C oc od cd sl Q;intros w A E h g d t os C oc od cd sl Q hC hm hne hq
 refine ks_callType_codesW (Q₁ := fun obj s₁ => obj = .ref h.objs.size ∧ s₁ = ⟨h.push { cls := .type "super",data := .fields #[.none,.none,.none] },g,d,t,os⟩) F.ks_called_super (ks_wpAny_checkTypeCall_super hC rfl) F.ks_entry_super_init
  (ks_code_super_new _ _ ⟨rfl,rfl⟩) fun obj s₁ h₁ => ?_
 obtain @⟨rfl,rfl⟩ := h₁
 have up : ∀ y o,h.get? y = some o -> (h.push { cls := .type "super",data := .fields #[.none,.none,.none] }).get? y = some o := fun y o e => Heap.get?_push_of_some _ e
 have hso : (h.push { cls := .type "super",data := .fields #[.none,.none,.none] }).get? h.objs.size = some { cls := .type "super",dict := none,data := .fields #[.none,.none,.none],slots := #[] } := Heap.get?_push_at rfl rfl
 have hC' := up _ _ hC
 refine ⟨⟨_,hso,rfl⟩,F.ks_initArgs_super _ _ _,?_⟩
 have sub : Looks (model PR w) (h.push { cls := .type "super",data := .fields #[.none,.none,.none] }) (isSubtype (.ref C) (.ref C)) true := by
  intros A Q E s k q
  unfold isSubtype
  refine wpAny_bind (wpAny_bind (wpAny_bind (wpAny_load (k _ _ hC') (wpAny_pure (wpAny_pure ?_)))))
  dsimp only
  rw [hne]
  exact wp_ifn (by decide) (wpAny_pure (by rw [hm];exact q))
 delta Builtin.«super.__init__»
 generalize hso0 : h.objs.size = so at hso hq
 generalize hH : h.push { cls := .type "super",data := .fields #[.none,.none,.none] } = H at *
 repeat (first | with_reducible refine ks_wpAny_super_set3 hso ?_ | with_reducible refine ks_wpAny_isType_cls hC' rfl ?_ | with_reducible apply Looks.at sub | walk_at "tn")
 intros h' e k
 have hfr : h.get? so = none := by rw [← hso0];exact Heap.get?_none_of_le (Nat.le_refl _)
 exact ⟨rfl,hq h' e fun y o ey => k y o (fun z => by rw [z,hfr] at ey;cases ey) (up y o ey)⟩
theorem own_isub : classOwn (.type "object") (ofString "__init_subclass__") = pure (some (.builtin "object.__init_subclass__")) := by kernel_rfl
theorem call_cm {C : Addr} {od : Option Addr} {cd : ClassData} {sl : Array (Option Value)} {x : Value} {Q : Value -> Shared -> Prop} (hC : h.get? C = some ⟨.type "type",od,.cls cd,sl⟩) (hm : cd.mro = [.ref C,.type "object"]) (hx : x = .none)
  (hq : ∀ h' b,h'.get? b = some { cls := .type "builtin_function_or_method",data := .fields #[.builtin "object.__init_subclass__",.ref C] } -> (∀ y o,h.get? y = some o -> h'.get? y = some o) -> Q (.ref b) ⟨h',g,d,t,os⟩) :
  wpAny (model PR w) A (call (.builtin "classmethod_descriptor.__get__") [.builtin "object.__init_subclass__",x,.ref C]) Q NoE ⟨h,g,d,t,os⟩ := by
 subst hx
 have sub : Looks (model PR w) h (isSubtype (.ref C) (.type "object")) true := by
  intro A Q E s k q
  unfold isSubtype
  refine wpAny_bind (wpAny_bind (wpAny_bind (wpAny_load (k _ _ hC) (wpAny_pure (wpAny_pure ?_)))))
  rw [hm]
  exact wp_ifn (by simp) (wpAny_pure (by rw [show ([Value.ref C,Value.type "object"] : List Value).contains (.type "object") = true from by simp];exact q))
 refine wpAny_call_entry slot_cm_get (T := "classmethod_descriptor") (show (⟨h,g,d,t,os⟩ : Shared).TypeIs (.builtin "object.__init_subclass__") "classmethod_descriptor" from isc_type) entry_cm_get ?_ (args_cm_get _ _ _)
 delta Builtin.«classmethod_descriptor.__get__»
 have hname : ".".intercalate ("object.__init_subclass__".cutAt '.').dropLast = "object" := by decide +kernel
 repeat (first | rewrite [hname] | with_reducible refine ks_wpAny_isType_cls hC rfl ?_ | with_reducible apply Looks.at sub | with_reducible apply newObjD | walk_at "tn")
 case hd => simp [sizeOk,sizeLine_eq]
 case hf => exact fun q => by cases q
 intro h' b _ _ _ k hb
 exact wpAny_pure ⟨_,rfl,hq h' b hb k⟩
theorem call_isub {b C : Addr} {od : Option Addr} {cd : ClassData} {sl : Array (Option Value)} {Q : Value -> Shared -> Prop} (hb : h.get? b = some { cls := .type "builtin_function_or_method",data := .fields #[.builtin "object.__init_subclass__",.ref C] }) (hC : h.get? C = some ⟨.type "type",od,.cls cd,sl⟩) (hqn : cd.qualname = ofString "cmp_to_key.<locals>.K")
  (hq : Q .none ⟨h,g,d,t,os⟩) : wpAny (model PR w) A (call (.ref b) []) Q NoE ⟨h,g,d,t,os⟩ := by
 revert w A h g d t os b C od cd sl Q;intros w A h g d t os b C od cd sl Q hb hC hqn hq
 refine wpAny_call (codeAny_of_tree ?_)
 show wpAny _ A.in1 (callAny (.ref b) _) _ _ _
 have tM : Looks (model PR w) h (isInstance (.ref C) (.type "module")) false := ((Looks.ld (part := none) hC).andThen .now).andThen (Looks.of_pure (show isSubtype (.type "type") (.type "module") = pure false by rw [isSubtype_type];kernel_rfl))
 have tC : Looks (model PR w) h (typeOf (.ref C)) (.type "type") := (Looks.ld (part := none) hC).andThen .now
 have tD : Looks (model PR w) h (classData C) cd := (Looks.ld (part := none) hC).andThen .now
 delta callAny
 refine wpAny_bind (wpAny_load hb ?_)
 repeat (first | rewrite [hqn] | with_reducible apply Looks.at tM | with_reducible apply Looks.at tC | with_reducible apply Looks.at tD | with_reducible refine ks_wpAny_isType_cls hC rfl ?_ | walk_at "tn")
 refine ⟨Code.quiet_builtin _ (by decide +kernel),codeAny_builtin entry_isub ?_⟩
 delta Builtin.«object.__init_subclass__»
 repeat walk_at "tn"
 exact hq
theorem super_isub {so C : Addr} {oc : Value} {od : Option Addr} {cd : ClassData} {sl : Array (Option Value)} {Q : Value -> Shared -> Prop} (hso : h.get? so = some { cls := .type "super",dict := none,data := .fields #[.ref C,.ref C,.ref C],slots := #[] })
  (hC : h.get? C = some ⟨.type "type",od,.cls cd,sl⟩) (hm : cd.mro = [.ref C,.type "object"]) (hno : Looks (model PR w) h (opaqueClassAbove (.ref C)) none)
  (hq : ∀ h' b,h'.get? b = some { cls := .type "builtin_function_or_method",data := .fields #[.builtin "object.__init_subclass__",.ref C] } -> (∀ y o,h.get? y = some o -> h'.get? y = some o) -> Q (.ref b) ⟨h',g,d,t + 1,os⟩) :
  wpAny (model PR w) A (getAttr (.ref so) (ofString "__init_subclass__")) Q NoE ⟨h,g,d,t,os⟩ := by
 revert w A h g d t os so C oc od cd sl Q;intros w A h g d t os so C oc od cd sl Q hso hC hm hno hq
 have hlk := F.ks_slot_super_ga.lookup
 have hT : ∀ t',(⟨h,g,d,t',os⟩ : Shared).TypeIs (.ref so) "super" := fun _ => ⟨_,hso,rfl⟩
 have hdt : ({ cls := .type "super",dict := none,data := .fields #[.ref C,.ref C,.ref C],slots := #[] } : Obj).data = .fields #[.ref C,.ref C,.ref C] := rfl
 have f0 : (#[.ref C,.ref C,.ref C] : Array Value)[0]? = some (.ref C) := rfl
 have f1 : (#[.ref C,.ref C,.ref C] : Array Value)[1]? = some (.ref C) := rfl
 have f2 : (#[.ref C,.ref C,.ref C] : Array Value)[2]? = some (.ref C) := rfl
 have hmr : Looks (model PR w) h (mroOf (.ref C)) [.ref C,.type "object"] := by
  intros A Q E s k q
  unfold mroOf
  refine wpAny_bind (wpAny_bind (wpAny_load (k _ _ hC) (wpAny_pure (wpAny_pure ?_))))
  rw [hm];exact q
 have hdrop : (([.ref C,.type "object"] : List Value).dropWhile (· != .ref C)).drop 1 = [.type "object"] := by simp [List.dropWhile]
 unfold getAttr getAttrBy
 refine wpAny_bind (wpAny_mkText (wpAny_holding (wpAny_bind (wpAny_typeOf (hT _) (wpAny_bind (wpAny_of_eq hlk ?_))))))
 show wpAny _ _ (getAttrByItsOwn (.ref so) (.str (ofString "__init_subclass__") t) (.type "super") (.builtin "super.__getattribute__") true false) _ _ _
 unfold getAttrByItsOwn hookBefore callGetattribute boundAndCalled
 refine wpAny_bind (wpAny_of_eq (show (if onTheHeap (.type "super") then typeLookup (.type "super") "__getattr__" else pure none) = pure none from rfl) ?_)
 refine wpAny_bind (wpAny_attempt (wpAny_holding ?_))
 show wpAny _ _ (bindSpecial (.builtin "super.__getattribute__") (.ref so) >>= _) _ _ _
 refine wpAny_bind (wpAny_of_eq (F.ks_slot_super_ga.bind _) ?_)
 refine wpAny_mono (Q := fun v s' => ∃ h' b,v = .ref b ∧ s' = ⟨h',g,d,t + 1,os⟩ ∧ h'.get? b = some { cls := .type "builtin_function_or_method",data := .fields #[.builtin "object.__init_subclass__",.ref C] } ∧ ∀ y o,h.get? y = some o -> h'.get? y = some o) (E := NoE)
  (wpAny_call_entry F.ks_slot_super_ga (hT _) F.ks_entry_super_ga ?_ (F.ks_gaArgs_super _ _)) (fun v s' hv => ?_) fun _ _ z => z.elim
 ·delta Builtin.«super.__getattribute__»
  repeat (first | with_reducible refine wpAny_field hso hdt f0 ?_ | with_reducible refine wpAny_field hso hdt f1 ?_ | with_reducible refine wpAny_field hso hdt f2 ?_ | with_reducible refine ks_wpAny_notOpaque hno ?_ | with_reducible apply Looks.at hmr | with_reducible apply wq_forE hdrop | with_reducible apply wq_for1 | with_reducible apply wp_eq own_isub | with_reducible apply wp_eq isc_type | with_reducible apply wp_eq isc_get | with_reducible apply call_cm hC hm | walk_at "tn")
  case hx => simp
  intros h' b q1 q2
  repeat walk_at "tn"
  exact ⟨_,rfl,h',b,rfl,rfl,q1,q2⟩
 ·obtain ⟨h',b,rfl,rfl,q1,q2⟩ := hv
  exact wpAny_pure (hq h' b q1 q2)
end
end
section
structure KL (M : Model) (h : Heap) (l : List DE) (lst : Addr) (qual : Str) (tq : Tok) : Prop where
 slots : getT (ofString "__slots__") l = some (.ref lst)
 obj : getT (ofString "obj") l = none
 mod : (getT (ofString "__module__") l).isSome = true
 qual : getT (ofString "__qualname__") l = some (.str qual tq)
 doc : getT (ofString "__doc__") l = none
 new : getT (ofString "__new__") l = none
 isub : getT (ofString "__init_subclass__") l = none
 cgi : getT (ofString "__class_getitem__") l = none
 cc : getT (ofString "__classcell__") l = none
 cd : getT (ofString "__classdictcell__") l = none
 del : getT (ofString "__del__") l = none
 eq : ∃ v,getT (ofString "__eq__") l = some v
 hash : ∃ v,getT (ofString "__hash__") l = some v
 nosn : ∀ q ∈ l,NoSN M h q.2.2
 len : l.length ≤ 50
noncomputable def clsK (T ns a : Addr) (tn tq : Tok) (qual : Str) : Obj :=
 { cls := .type "type",data := .cls { name := ofString "K",bases := [.type "object"],mro := [.ref a,.type "object"],ns,qualname := qual,hasDict := false,slotNames := [ofString "obj"] },slots := #[some (.ref T),none,some (.str (ofString "K") tn),some (.str qual tq),some (.builtin "object.__new__"),some (.bool false)] }
noncomputable abbrev cd0 (N : Addr) (qual : Str) : ClassData := { name := ofString "K",bases := [.type "object"],mro := [],ns := N,qualname := qual }
noncomputable abbrev cd1 (N a : Addr) (qual : Str) : ClassData := { name := ofString "K",bases := [.type "object"],mro := [.ref a,.type "object"],ns := N,qualname := qual }
noncomputable abbrev cd2 (N a : Addr) (qual : Str) : ClassData := { name := ofString "K",bases := [.type "object"],mro := [.ref a,.type "object"],ns := N,qualname := qual,hasDict := false,slotNames := [ofString "obj"] }
noncomputable def memObj (a : Addr) (t : Tok) : Obj := { cls := .type "member_descriptor",data := .fields #[.str (ofString "obj") t,.ref a,.builtin "proto.slot",.builtin "proto.slot#set",rawInt 0] }
section
variable {w : World} {A : Around} {s : Shared}
theorem slots_readG {h : Heap} {g : Array GenState} {d : Drawn} {tk : Nat} {os : OsState} {l : List DE} {lst : Addr} {t : Tok} {cn : Str} {bs : List Value} {es : Array DictEntry} {Q : Builtin.Slots.Plan -> Shared -> Prop} (hc : cn = ofString "K") (hb : bs = [.type "object"]) (he : es = (ents w.params l).toArray) (hs : getT (ofString "__slots__") l = some (.ref lst)) (hL : h.IsList lst #[.str (ofString "obj") t]) (hno : getT (ofString "obj") l = none)
  (q : ∀ h',(∀ b o,h.get? b = some o -> h'.get? b = some o) -> Q { names := [ofString "obj"],dict := false,weak := false,inherited := [] } ⟨h',g,d,tk,os⟩) :
  wpAny (model PR w) A (Builtin.Slots.read cn bs es) Q NoE ⟨h,g,d,tk,os⟩ := by
 subst hc hb he;exact slots_read (s := ⟨h,g,d,tk,os⟩) hs hL hno q
theorem mkStrObj {M : Model} {h : Heap} {g : Array GenState} {d : Drawn} {t : Nat} {os : OsState} {Q : Value -> Shared -> Prop} {E : Value -> Shared -> Prop} (q : Q (.str (ofString "obj") t) ⟨h,g,d,t + 1,os⟩) : wpAny M A (mkStr (ofString "obj")) Q E ⟨h,g,d,t,os⟩ := wpAny_mkStr' q (by rw [sizeLine_eq];decide +kernel)
theorem wp_tryS {M : Model} {α : Type} {m : Sem α} {k : Value -> Sem α} {Q : α -> Shared -> Prop} {E : Value -> Shared -> Prop} (h : wpAny M A m Q NoE s) : wpAny M A (Sem.tryCatch m k) Q E s := wp_try h
theorem lin_G {M : Model} {bs : List Value} {Q : List Value -> Shared -> Prop} {E : Value -> Shared -> Prop} (hb : bs = [.type "object"]) (q : Q [.type "object"] s) : wpAny M A (Builtin.linearize bs mroOf) Q E s := by subst hb;exact wpAny_of_eq lin_obj q
theorem wq_forC {M : Model} {E : Value -> Shared -> Prop} {α β : Type} {f : α -> β -> Sem (ForInStep β)} {x : α} {l : List α} {b : β} {Q : β -> Shared -> Prop} (h : wpAny M A (f x b) (fun r s' => match r with | .yield b' => wpAny M A (forIn l b' f) Q E s' | .done b' => Q b' s') E s) : wpAny M A (forIn (x :: l) b f) Q E s := by
 rw [List.forIn_cons]
 refine wpAny_bind (wpAny_mono h (fun r s' q => ?_) fun _ _ x => x)
 cases r with
 | yield b => exact q
 | done b => exact wpAny_pure q
theorem wq_for0 {M : Model} {E : Value -> Shared -> Prop} {α β : Type} {f : α -> β -> Sem (ForInStep β)} {b : β} {Q : β -> Shared -> Prop} (h : Q b s) : wpAny M A (forIn ([] : List α) b f) Q E s := wpAny_pure h
noncomputable def lK (l : List DE) (mem : Addr) (t1 t2 : Tok) : List DE := putT (ofString "__doc__") t2 .none (putT (ofString "obj") t1 (.ref mem) (delT (ofString "__qualname__") l))
theorem type_new {l : List DE} {T nsA lst : Addr} {n : Nat} {t tn tq : Tok} {qual : Str} {Q : PySem.Fin -> Shared -> Prop} (kl : KL (model PR w) s.heap l lst qual tq)
  (hT : s.heap.get? T = some { cls := .type "tuple",data := .seq #[.type "object"] }) (hns : s.heap.get? nsA = some (dictOf (ents w.params l) n)) (hne : nsA ≠ sysModules)
  (hL : s.heap.IsList lst #[.str (ofString "obj") t]) (hqn : qual = ofString "cmp_to_key.<locals>.K") (X : (hd.heap_1 w.params).In s.heap)
  (hQ : ∀ h' tk' a N mem t1 t2 t3 n',(∀ b o,s.heap.get? b = some o -> h'.get? b = some o) -> (s.heap.get? a = none ∧ s.heap.get? N = none) -> h'.get? a = some (clsK T N a tn tq qual) -> h'.get? N = some (dictOf (ents w.params (lK l mem t1 t2)) n') -> h'.get? mem = some (memObj a t3) -> Q (.done (.ret (.ref a))) { s with heap := h',toks := tk' }) :
  wpAny (model PR w) A (Builtin.«type.__new__» ⟨[.type "type",.str (ofString "K") tn,.ref T,.ref nsA],[]⟩) Q NoE s := by
 revert w A s l T nsA lst n t tn tq qual Q
 intros w A
 rintro ⟨hh,g,d,tk,os⟩
 revert hh g d tk os
 intros hh g d tk os l T nsA lst n t tn tq qual Q
 intro kl hT hns hne hL hqn X hQ
 delta Builtin.«type.__new__»
 have tT : Looks (model PR w) hh (isInstance (.ref T) (.type "tuple")) true := ((Looks.ld (part := none) hT).andThen .now).andThen (Looks.of_pure (by first | (rw [isSubtype_type];kernel_rfl) | kernel_rfl))
 have tN : Looks (model PR w) hh (isInstance (.ref nsA) (.type "dict")) true := ((Looks.ld (part := none) hns).andThen .now).andThen (Looks.of_pure (by first | (rw [isSubtype_type];kernel_rfl) | kernel_rfl))
 have tI : Looks (model PR w) hh (specialOf (.ref nsA) "__iter__") (some (.builtin "dict.__iter__")) := ((Looks.ld (part := none) hns).andThen .now).andThen (Looks.of_pure iter_dict)
 have hany : ∀ x : Str,(ents w.params l).toArray.any (fun e => e.key.isStr x) = (getT x l).isSome := fun x => by rw [← getT_any w.params x l,← Array.any_toList]
 have tS : Looks (model PR w) hh (seqItems? (.ref T)) (some #[.type "object"]) := (Looks.ld (part := none) hT).andThen .now
 repeat (first | with_reducible apply Looks.at tT | with_reducible apply Looks.at tN | with_reducible apply Looks.at tS | with_reducible apply wq_for1 | with_reducible apply wp_eq sub_tt | walk_at "tn")
 apply wp_ifn (by simpa using hne)
 rw [show (if ((some #[Value.type "object"]).getD #[]).toList.isEmpty = true then [Value.type "object"] else ((some #[Value.type "object"]).getD #[]).toList) = [Value.type "object"] from rfl]
 repeat (first | with_reducible apply wpAny_dictEntries hns rfl | with_reducible apply Looks.at tI | walk_at "tn")
 apply wp_ifp (by rw [beq_self_eq_true,Bool.or_true])
 repeat (first | with_reducible apply slots_readG (hs := kl.slots) (hL := hL) (hno := kl.obj) | walk_at "tn")
 case hc => rfl
 case hb => rfl
 case he => rfl
 intros h1
 intro k1
 repeat (first | with_reducible apply newObjD | walk_at "tn")
 case hd => show (ents w.params l).toArray.size ≤ sizeLine + 1;rw [sizeLine_eq];unfold ents;have := kl.len;simp;omega
 case hf => exact fun q => by cases q
 intros h2 N
 intro eN eh2 fN k2 hN
 replace hN : h2.get? N = some (dictOf (ents w.params l) 0) := hN
 repeat walk_at "tn"
 apply wp_ifn (by show ¬ ((!(ents w.params l).toArray.any (fun e => e.key.isStr (ofString "__module__"))) = true);rw [hany,kl.mod];decide)
 repeat (first | with_reducible apply nsGetDs hN kl.qual | with_reducible apply nsGetDn hN kl.doc | with_reducible apply allocD | walk_at "tn")
 case hf => rfl
 intros h3 a
 intro ea eh3 fa k3 ha
 have hNa : N ≠ a := fun q => by rw [q,fa] at hN;cases hN
 have hN3 := k3 _ _ hN
 repeat (first | with_reducible apply setSlotD (ho := ha) | walk_at "tn")
 case hi => decide
 case hf => rfl
 intros h4
 intro sb4 ha4
 replace ha4 : h4.get? a = some ⟨.type "type",none,.cls (cd0 N qual),#[some (.ref T)]⟩ := by rw [ha4];first | rfl | (simp;rfl)
 have hN4 := sb4.extBut _ _ hNa hN3
 repeat (first | with_reducible apply setSlotD (ho := ha4) | walk_at "tn")
 case hi => decide
 case hf => rfl
 intros h5
 intro sb5 ha5
 replace ha5 : h5.get? a = some ⟨.type "type",none,.cls (cd0 N qual),#[some (.ref T),none,some (.str (ofString "K") tn)]⟩ := by rw [ha5];first | rfl | (simp;rfl)
 have hN5 := sb5.extBut _ _ hNa hN4
 repeat (first | with_reducible apply setSlotD (ho := ha5) | walk_at "tn")
 case hi => decide
 case hf => rfl
 intros h6
 intro sb6 ha6
 replace ha6 : h6.get? a = some ⟨.type "type",none,.cls (cd0 N qual),#[some (.ref T),none,some (.str (ofString "K") tn),some (.str qual tq)]⟩ := by rw [ha6];first | rfl | (simp;rfl)
 have hN6 := sb6.extBut _ _ hNa hN5
 repeat (first | with_reducible apply nsDelD hN6 kl.qual | walk_at "tn")
 intros h7 n7
 intro sb7 hN7
 have ha7 := sb7.extBut _ _ (Ne.symm hNa) ha6
 have gD : ∀ {x : Str} {r : Option Value},x ≠ ofString "__qualname__" -> getT x l = r -> getT x (delT (ofString "__qualname__") l) = r := fun hx e => (getT_del_other hx l).trans e
 have e1 := gD (x := ofString "__new__") (by decide) kl.new
 have e2 := gD (x := ofString "__init_subclass__") (by decide) kl.isub
 have e3 := gD (x := ofString "__class_getitem__") (by decide) kl.cgi
 have e4 := gD (x := ofString "__classcell__") (by decide) kl.cc
 have e5 := gD (x := ofString "__classdictcell__") (by decide) kl.cd
 have hfil : List.filter (fun x => x != Value.ref a) (Value.ref a :: [.type "object"]) = [.type "object"] := by simp
 repeat (first | with_reducible apply nsGetDn hN7 e1 | with_reducible apply nsGetDn hN7 e2 | with_reducible apply nsGetDn hN7 e3 | with_reducible apply nsGetDn hN7 e4 | with_reducible apply nsGetDn hN7 e5 | with_reducible apply wq_forC | with_reducible apply wq_for0 | with_reducible apply wp_eq hook_type | with_reducible apply lin_G (hb := rfl) | walk_at "tn")
 rw [hfil]
 repeat (first | with_reducible apply updClsD (ho := ha7) | walk_at "tn")
 case hp => rfl
 intros h8
 intro sb8 ha8
 have hdel : ((fun n => (ents w.params l).toArray.any fun x => x.key.isStr n) (ofString "__del__")) = false := by show (ents w.params l).toArray.any (fun e => e.key.isStr (ofString "__del__")) = false;rw [hany,kl.del];rfl
 replace ha8 : h8.get? a = some ⟨.type "type",none,.cls (cd1 N a qual),#[some (.ref T),none,some (.str (ofString "K") tn),some (.str qual tq)]⟩ := by rw [ha8,hdel];rfl
 have hN8 := sb8.extBut _ _ hNa hN7
 repeat (first | with_reducible apply wp_eq made_obj | with_reducible apply setSlotD (ho := ha8) | walk_at "tn")
 case hi => decide
 case hf => rfl
 intros h9
 intro sb9 ha9
 replace ha9 : h9.get? a = some ⟨.type "type",none,.cls (cd1 N a qual),#[some (.ref T),none,some (.str (ofString "K") tn),some (.str qual tq),some (.builtin "object.__new__")]⟩ := by rw [ha9];first | rfl | (simp;rfl)
 have hN9 := sb9.extBut _ _ hNa hN8
 have o1 := gD (x := ofString "obj") (by decide) kl.obj
 repeat (first | with_reducible apply slotD (ho := ha9) | with_reducible apply nsGetDn hN9 e1 | with_reducible apply nsGetDn hN9 o1 | with_reducible apply wq_for1 | with_reducible apply mkStrObj | with_reducible apply newObjD | walk_at "tn")
 case hd => simp [sizeOk,sizeLine_eq]
 case hf => exact fun q => by cases q
 intros h10 mem
 intro emem eh10 fmem k10 hmem
 have hN10 := k10 _ _ hN9
 have ha10 := k10 _ _ ha9
 have hmN : mem ≠ N := fun q => by rw [q,hN9] at fmem;cases fmem
 have hma : mem ≠ a := fun q => by rw [q,ha9] at fmem;cases fmem
 repeat (first | with_reducible apply nsSetVD (ho := hN10) | walk_at "tn")
 case hz => exact Nat.le_trans (len_del l) (Nat.le_trans kl.len (by decide))
 intros h11 n11
 intro sb11 hN11
 have ha11 := sb11.extBut _ _ (Ne.symm hNa) ha10
 have hm11 := sb11.extBut _ _ hmN hmem
 repeat (first | with_reducible apply updClsD (ho := ha11) | with_reducible apply wp_eq gd_obj | with_reducible apply wq_for1 | walk_at "tn")
 case hp => rfl
 intros h12
 intro sb12 ha12
 replace ha12 : h12.get? a = some ⟨.type "type",none,.cls (cd2 N a qual),#[some (.ref T),none,some (.str (ofString "K") tn),some (.str qual tq),some (.builtin "object.__new__")]⟩ := by rw [ha12];rfl
 have hN12 := sb12.extBut _ _ hNa hN11
 have hm12 := sb12.extBut _ _ hma hm11
 repeat (first | with_reducible apply setSlotD (ho := ha12) | with_reducible apply wp_eq gw_obj | walk_at "tn")
 case hi => decide
 case hf => rfl
 intros h13
 intro sb13 ha13
 replace ha13 : h13.get? a = some ⟨.type "type",none,.cls (cd2 N a qual),#[some (.ref T),none,some (.str (ofString "K") tn),some (.str qual tq),some (.builtin "object.__new__"),some (.bool false)]⟩ := by rw [ha13];first | rfl | (simp;rfl)
 have hN13 := sb13.extBut _ _ hNa hN12
 have hm13 := sb13.extBut _ _ hma hm12
 have gP : ∀ {x : Str} {r : Option Value},x ≠ ofString "__qualname__" -> x ≠ ofString "obj" -> getT x l = r -> getT x (putT (ofString "obj") (tk + 1) (.ref mem) (delT (ofString "__qualname__") l)) = r := fun hx hy e => (getT_put_other hy _ _ _).trans (gD hx e)
 have p1 := gP (x := ofString "__doc__") (by decide) (by decide) kl.doc
 repeat (first | with_reducible apply nsGetDn hN13 p1 | with_reducible apply nsSetD (ho := hN13) | walk_at "tn")
 intros h14 n14
 intro sb14 hN14
 have ha14 := sb14.extBut _ _ (Ne.symm hNa) ha13
 have hm14 := sb14.extBut _ _ hmN hm13
 have gQ : ∀ {x : Str} {r : Option Value},x ≠ ofString "__qualname__" -> x ≠ ofString "obj" -> x ≠ ofString "__doc__" -> getT x l = r -> getT x (lK l mem (tk + 1) (tk + 1 + 1)) = r := fun hx hy hz e => (getT_put_other hz _ _ _).trans (gP hx hy e)
 obtain ⟨veq,heq⟩ := kl.eq
 obtain ⟨vha,hha⟩ := kl.hash
 have q1 := gQ (x := ofString "__eq__") (by decide) (by decide) (by decide) heq
 have q2 := gQ (x := ofString "__hash__") (by decide) (by decide) (by decide) hha
 unfold lK at q1 q2
 repeat (first | with_reducible apply wp_tryS | with_reducible apply wpAny_dictEntries hN14 rfl | with_reducible apply wp_forInvA | with_reducible apply nsGetDs hN14 q1 | with_reducible apply nsGetDs hN14 q2 | with_reducible apply wq_for1 | with_reducible apply wp_eq (note_obj a) | walk_at "tn")
 case h =>
  intro e he Q' q
  obtain ⟨q0,hq0,rfl⟩ := List.mem_map.mp (show e ∈ ents w.params _ by simpa using he)
  exact wpAny_bind (wpAny_pure (wp_ifn (by simp) (wpAny_pure q)))
 have keep14 : ∀ b o,hh.get? b = some o -> h14.get? b = some o := fun b o e => by
  have e2 := k2 b o (k1 b o e)
  have bN : b ≠ N := fun z => by rw [z] at e;rw [k1 _ _ e] at fN;cases fN
  have ba : b ≠ a := fun z => by rw [z] at e;rw [k2 _ _ (k1 _ _ e)] at fa;cases fa
  exact sb14.extBut b o bN (sb13.extBut b o ba (sb12.extBut b o ba (sb11.extBut b o bN (k10 b o (sb9.extBut b o ba (sb8.extBut b o ba (sb7.extBut b o bN (sb6.extBut b o ba (sb5.extBut b o ba (sb4.extBut b o ba (k3 b o e2)))))))))))
 have sn14 : ∀ q ∈ lK l mem (tk + 1) (tk + 1 + 1),NoSN (model PR w) h14 q.2.2 := fun q hq => by
  rcases mem_put hq with e | hq
  ·rw [e];exact nosn_none
  ·rcases mem_put hq with e | hq
   ·rw [e];exact nosn_ref hm14 rfl sn_mem
   ·exact (kl.nosn q (mem_del hq)).keeps keep14
 repeat (first | with_reducible apply wpAny_dictEntries hN14 rfl | with_reducible apply wp_forInvA | walk_at "tn")
 case h =>
  intro e he Q' q
  obtain ⟨q0,hq0,rfl⟩ := List.mem_map.mp (show e ∈ ents w.params _ by simpa using he)
  have z := sn14 q0 hq0
  refine wp_ifn (by rw [show Builtin.laidUnderItsOwnName (Value.str q0.1 q0.2.1) q0.2.2 = Builtin.heldUnderItsOwnName q0.1 q0.2.2 from rfl,z.2];decide) (wpAny_bind (z.1.at ?_))
  exact wpAny_pure q
 repeat (first | with_reducible apply super_cls (hC := ha14) | walk_at "tn")
 case hm => simp
 case hne => rfl
 intros h15
 intro hso k15
 have ha15 := k15 _ _ ha14
 have X15 : (hd.heap_1 w.params).In h15 := fun b o e => k15 b o (keep14 b o (X b o e))
 repeat (first | with_reducible apply super_isub (hso := hso) (hC := ha15) | walk_at "tn")
 case hm => rfl
 case hno => exact looks_opaque X15 (by k_is)
 intros h16 b16
 intro hb16 k16
 have ha16 := k16 _ _ ha15
 repeat (first | with_reducible apply call_isub (hb := hb16) (hC := ha16) | walk_at "tn")
 case hqn => exact hqn
 repeat walk_at "tn"
 ·subst hqn
  refine hQ h16 _ a N mem (tk + 1) (tk + 1 + 1) tk n14 (fun b o e => k16 b o (k15 b o (keep14 b o e))) ?_ ha16 (k16 _ _ (k15 _ _ hN14)) (k16 _ _ (k15 _ _ hm14))
  refine ⟨?_,?_⟩
  ·cases e : hh.get? a with
   | none => rfl
   | some o => have := k2 _ _ (k1 _ _ e);rw [fa] at this;cases this
  ·cases e : hh.get? N with
   | none => rfl
   | some o => have := k1 _ _ e;rw [fN] at this;cases this
 ·exact Value.none
end
end
section
theorem slot_tinit : Slot "type" "__init__" "type.__init__" := .of (owner := "type") (n := "__init__") (by rw [typeLookup_type,builtinLookup_eq_fast];kernel_rfl) (by decide +kernel) (by decide +kernel) (by decide +kernel)
 (.inl (by decide +kernel)) (by rw [isSubtype_type];kernel_rfl)
theorem entry_tinit : entryFor table "type.__init__" = some Builtin.«type.__init__» := entryFor_of_tree (by kernel_rfl)
theorem args_tinit (a b c e : Value) : argsOk "type.__init__" ⟨[a,b,c,e],[]⟩ := by unfold argsOk;kernel_rfl
theorem entry_tnew : entryFor table "type.__new__" = some Builtin.«type.__new__» := entryFor_of_tree (by kernel_rfl)
theorem check_tnew (a b c : Value) : checkBuiltinCall "type.__new__" ⟨[.type "type",a,b,c],[]⟩ = pure () := by kernel_rfl
theorem plain_tnew : plainId "type.__new__" = true := by decide +kernel
theorem made_type : Bind.madeBy (.type "type") = pure (some "type.__new__") := by kernel_rfl
theorem mro_type : mroOf (.type "type") = pure [.type "type",.type "object"] := by rw [mroOf_type];kernel_rfl
theorem tcheck (a b c : Value) : checkTypeCall "type" ⟨[a,b,c],[]⟩ = pure () := by kernel_rfl
section
variable {w : World} {A : Around} {s : Shared}
theorem call_tnew {l : List DE} {T nsA lst : Addr} {n : Nat} {t tn tq : Tok} {qual : Str} {Q : Value -> Shared -> Prop} (kl : KL (model PR w) s.heap l lst qual tq)
  (hT : s.heap.get? T = some { cls := .type "tuple",data := .seq #[.type "object"] }) (hns : s.heap.get? nsA = some (dictOf (ents w.params l) n)) (hne : nsA ≠ sysModules)
  (hL : s.heap.IsList lst #[.str (ofString "obj") t]) (hqn : qual = ofString "cmp_to_key.<locals>.K") (X : (hd.heap_1 w.params).In s.heap)
  (hQ : ∀ h' tk' a N mem t1 t2 t3 n',(∀ b o,s.heap.get? b = some o -> h'.get? b = some o) -> (s.heap.get? a = none ∧ s.heap.get? N = none) -> h'.get? a = some (clsK T N a tn tq qual) -> h'.get? N = some (dictOf (ents w.params (lK l mem t1 t2)) n') -> h'.get? mem = some (memObj a t3) -> Q (.ref a) { s with heap := h',toks := tk' }) :
  wpAny (model PR w) A (call (.builtin "type.__new__") [.type "type",.str (ofString "K") tn,.ref T,.ref nsA]) Q NoE s := by
 refine wpAny_call (codeAny_call_builtin plain_tnew entry_tnew (wpAny_of_eq (check_tnew _ _ _) ?_))
 exact type_new kl hT hns hne hL hqn X hQ
theorem call_tinit {a : Addr} {x y z : Value} {od : Option Addr} {cd : ClassData} {sl : Array (Option Value)} {Q : Value -> Shared -> Prop} (ha : s.heap.get? a = some ⟨.type "type",od,.cls cd,sl⟩) (q : Q .none s) :
  wpAny (model PR w) A (call (.builtin "type.__init__") [.ref a,x,y,z]) Q NoE s := by
 refine wpAny_call_entry slot_tinit (T := "type") ⟨_,ha,rfl⟩ entry_tinit ?_ (args_tinit _ _ _ _)
 delta Builtin.«type.__init__»
 repeat walk_at "tn"
 exact ⟨_,rfl,q⟩
theorem call_tinitG {a : Addr} {l : List Value} {kw : List (Str × Value)} {x y z : Value} {od : Option Addr} {cd : ClassData} {sl : Array (Option Value)} {Q : Value -> Shared -> Prop} (ha : s.heap.get? a = some ⟨.type "type",od,.cls cd,sl⟩) (hl : l = [.ref a,x,y,z]) (hk : kw = []) (q : Q .none s) :
  wpAny (model PR w) A (call (.builtin "type.__init__") l kw) Q NoE s := by subst hl hk;exact call_tinit ha q
theorem call_type3 {l : List DE} {T nsA lst : Addr} {n : Nat} {t tn tq : Tok} {qual : Str} {Q : Value -> Shared -> Prop} (kl : KL (model PR w) s.heap l lst qual tq)
  (hT : s.heap.get? T = some { cls := .type "tuple",data := .seq #[.type "object"] }) (hns : s.heap.get? nsA = some (dictOf (ents w.params l) n)) (hne : nsA ≠ sysModules)
  (hL : s.heap.IsList lst #[.str (ofString "obj") t]) (hqn : qual = ofString "cmp_to_key.<locals>.K") (X : (hd.heap_1 w.params).In s.heap)
  (hQ : ∀ h' tk' a N mem t1 t2 t3 n',(∀ b o,s.heap.get? b = some o -> h'.get? b = some o) -> (s.heap.get? a = none ∧ s.heap.get? N = none) -> h'.get? a = some (clsK T N a tn tq qual) -> h'.get? N = some (dictOf (ents w.params (lK l mem t1 t2)) n') -> h'.get? mem = some (memObj a t3) -> Q (.ref a) { s with heap := h',toks := tk' }) :
  wpAny (model PR w) A (call (.type "type") [.str (ofString "K") tn,.ref T,.ref nsA]) Q NoE s := by
 refine wpAny_call (codeAny_of_tree ?_)
 show wpAny _ _ (callAny (.type "type") _) _ _ _
 refine wpAny_pure ⟨Code.quiet_builtin _ (by decide +kernel),codeAny_builtin F.entry_type_call ?_⟩
 delta Builtin.«type.__call__»
 repeat (first | with_reducible apply wp_eq (tcheck _ _ _) | with_reducible apply wp_eq made_type | with_reducible apply wp_eq mro_type | with_reducible apply call_tnew kl hT hns hne hL hqn X | walk_at "tn")
 intro h' tk' a N mem t1 t2 t3 n' k fa ha hN hm
 have ti : Looks (model PR w) h' (isInstance (.ref a) (.type "type")) true := ((Looks.ld (part := none) ha).andThen .now).andThen (Looks.of_pure sub_tt)
 have ts : Looks (model PR w) h' (specialOf (.ref a) (ofString "__init__")) (some (.builtin "type.__init__")) := ((Looks.ld (part := none) ha).andThen .now).andThen (Looks.of_pure slot_tinit.lookup)
 obtain ⟨hh,g,d,tk,os⟩ := s
 repeat (first | with_reducible apply Looks.at ti | with_reducible apply Looks.at ts | with_reducible apply wp_eq (slot_tinit.bind (.ref a)) | with_reducible apply call_tinitG (ha := ha) | walk_at "tn")
 case hl => rfl
 case hk => rfl
 repeat walk_at "tn"
 exact hQ h' tk' a N mem t1 t2 t3 n' k fa ha hN hm
end
end
section
noncomputable abbrev clsEnv (scope : Scope) (nsA : Addr) (qual : Str) (c' : Addr) (frame : Addr) (clos : List (Str × Addr)) : Env :=
 { scope := scope,locals := nsA,globals := mainGlobals,cells := clos,qual := qual,code := .ref c',frame := some frame,builtins := builtinsNs }
structure KB (w : World) (hb h0 : Heap) (nsA c' P' : Addr) (l : List DE) (ps : Array Value) (h : Heap) : Prop where
 ns : ∃ n,h.get? nsA = some (dictOf (ents w.params l) n)
 ct : CT h c' P' ps
 st : hb.StaysIn h
 keep : ∀ b o,b ≠ nsA -> b ≠ P' -> h0.get? b = some o -> h.get? b = some o
 nN : hb.get? nsA = none
 nP : hb.get? P' = none
 cN : c' ≠ nsA
 PN : P' ≠ nsA
noncomputable def FnK (h : Heap) (P' f : Addr) (name qual : Str) (params : Arguments) (body : List Stmt) (scope : Scope) (clos : List (Str × Addr)) : Prop :=
 ∃ doc pm cd ctv,h.get? f = some (fnMade name qual params body scope clos doc pm cd ctv) ∧ cd ≠ P' ∧ h.CodeRec (.ref cd) qual
theorem FnK.move {h h' : Heap} {f nsA P' : Addr} {name qual : Str} {params : Arguments} {body : List Stmt} {scope : Scope} {clos : List (Str × Addr)} (x : FnK h P' f name qual params body scope clos) (k : ∀ b o,b ≠ nsA -> b ≠ P' -> h.get? b = some o -> h'.get? b = some o)
  (hN : ∃ es n,h.get? nsA = some (dictOf es n)) (hP : ∃ ps,h.get? P' = some (tabObj ps)) : FnK h' P' f name qual params body scope clos := by
 revert h h' f nsA P' name qual params body scope clos;intros h h' f nsA P' name qual params body scope clos x k hN hP
 obtain @⟨doc,pm,cd,ctv,e,hcP,c2,o2,vs2,t2,e2,g2,hd2,r2⟩ := x
 cases e2
 obtain @⟨es,n,hN⟩ := hN
 obtain @⟨ps,hP⟩ := hP
 refine ⟨doc,pm,_,ctv,k _ _ ?_ ?_ e,hcP,_,o2,vs2,t2,rfl,k _ _ ?_ hcP g2,hd2,r2⟩
 ·intros q
  rw [q,hN] at e;simp at e
 ·intros q
  rw [q,hP] at e;simp at e
 ·intros q
  rw [q,hN] at g2;cases g2;cases hd2
section
variable {w : World} {A : Around} {E : Value -> Shared -> Prop} {h : Heap} {g : Array GenState} {d : Drawn} {t : Nat} {os : OsState} {hb h0 : Heap} {nsA c' P' : Addr} {l : List DE} {ps : Array Value} {env : Env}
theorem KB.glob (G : Gr w hb) (k : KB w hb h0 nsA c' P' l ps h) : ∃ mg,h.Ns mainGlobals mg ∧ h.BuiltinsAt mg P' ∧ mainGlobals ≠ P' ∧ mg (ofString "__name__") = some (.str (ofString "law_ik0052_01") 520) := by
 revert w h hb h0 nsA c' P' l ps;intros w h hb h0 nsA c' P' l ps G k
 obtain @⟨p,loose,mg,mb,T⟩ := G.T
 obtain @⟨ob,b1,b2,b3,b4⟩ := G.B
 have e := mg_of G.X T.g (show nsIn (hd.heap_1 w.params) mainGlobals (ofString "__builtins__") = some (some (.ref 4)) by k_is)
 have e2 := mg_of G.X T.g (show nsIn (hd.heap_1 w.params) mainGlobals (ofString "__name__") = some (some (.str (ofString "law_ik0052_01") 520)) by k_is)
 refine ⟨mg,T.g.keeps k.st,⟨4,ob,e,by decide,by decide,fun q => ?_,k.st _ _ b1,b2,b3,b4⟩,fun q => ?_,e2⟩
 ·rw [q,k.nP] at b1;cases b1
 ·obtain @⟨o,es,ep,eo,_⟩ := T.g
  rw [q,k.nP] at eo;cases eo
theorem cls_store {x : Str} {v : Value} {Q : Unit -> Shared -> Prop} (hk : env.scope.kind = .class) (hl : env.kindOf x = some .local ∨ (env.kindOf x = none ∧ compilersOwnNames.contains x = true)) (hN : env.locals = nsA) (k : KB w hb h0 nsA c' P' l ps h)
  (q : ∀ h',KB w hb h0 nsA c' P' (putT x t v l) ps h' -> (∀ b o,b ≠ nsA -> h.get? b = some o -> h'.get? b = some o) -> Q () ⟨h',g,d,t + 1,os⟩) : wpAny (model PR w) A (storeName env x v) Q E ⟨h,g,d,t,os⟩ := by
 obtain ⟨n,ho⟩ := k.ns
 have main : wpAny (model PR w) A (localSet env x v) Q E ⟨h,g,d,t,os⟩ := by
  unfold localSet
  rw [hN]
  refine wpAny_bind (wpAny_load ho (wp_ifp (by rfl) (nsSetD ho fun h' n' sb e => ?_)))
  have kp : ∀ b o,b ≠ nsA -> h.get? b = some o -> h'.get? b = some o := fun b o nb e => sb.extBut b o nb e
  refine q h' ⟨⟨n',e⟩,⟨codeHd_at k.ct.hd fun o => kp _ o k.cN,kp _ _ k.PN k.ct.tab,k.ct.ok⟩,fun b o eb => kp b o (fun z => by rw [z,k.nN] at eb;cases eb) (k.st b o eb),fun b o h1 h2 e => kp b o h1 (k.keep b o h1 h2 e),k.nN,k.nP,k.cN,k.PN⟩ kp
 unfold storeName
 have e1 : (env.kindOf x == some .globalImplicit && env.blockKind != .function) = false := by
  rcases hl with hl | ⟨hl,_⟩ <;> rw [hl] <;> rfl
 rw [e1]
 simp only [Bool.false_eq_true,if_false]
 rcases hl with hl | ⟨hl,hc⟩
 ·rw [hl]
  dsimp only
  exact wp_ifp (by rw [hk];rfl) main
 ·rw [hl]
  dsimp only
  refine wp_ifn (by rw [hc];unfold Env.blockKind;rw [hk];simp [ScopeKind.isAnnotationScope]) (wp_ifp (by rw [hk];rfl) main)
theorem cls_def {name : Str} {params : Arguments} {body : List Stmt} {scope : Scope} {pos : Pos} {clos' : List (Str × Addr)} {Q : Flow -> Shared -> Prop} (G : Gr w hb) (hk : env.scope.kind = .class) (hl : env.kindOf name = some .local) (hN : env.locals = nsA) (hcode : env.code = .ref c') (hge : env.globals = mainGlobals)
  (k : KB w hb h0 nsA c' P' l ps h) (hnf : codeAmong pos ps.toList = none) (hcl : closureFor scope env = pure clos') (hd0 : params.defaults = []) (hk0 : params.kw_defaults = []) (hann : annTrees params none env = [])
  (q : ∀ h' t' tk f cc,KB w hb h0 nsA c' P' (putT name tk (.ref f) l) (ps ++ #[rawInt pos.line,rawInt pos.col,.ref cc]) h' -> (∀ b o,b ≠ nsA -> b ≠ P' -> h.get? b = some o -> h'.get? b = some o) -> h.get? f = none -> FnK h' P' f name (qualnameIn env name name) params body scope clos' -> Q .next ⟨h',g,d,t',os⟩) :
  wpAny (model PR w) A (exec (.FunctionDef name params body [] none [] scope none name pos) env) Q E ⟨h,g,d,t,os⟩ := by
 obtain ⟨mg,hg,hbu,hgP,_⟩ := k.glob G
 refine nestDef_K hd0 hk0 hann (makeFunction_K (mg := mg) (s := ⟨h,g,d,t,os⟩) hcl hge hg hcode k.ct.hd k.ct.tab k.ct.ok hnf hgP hbu fun cc ctv doc h1 tk hx hge1 hlt hrec htb => ?_)
 obtain ⟨n,ho⟩ := k.ns
 have hx' : ∀ b o,b ≠ P' -> h.get? b = some o -> h1.get? b = some o := hx
 have hfn : ∀ b o,b ≠ P' -> h.get? b = some o -> (h1.push (fnMade name (qualnameIn env name name) params body scope clos' doc ((mg "__name__").getD .none) cc ctv)).get? b = some o := fun b o nb e => Heap.get?_push_of_some _ (hx' b o nb e)
 have hcP : c' ≠ P' := codeHd_ne k.ct.hd
 have hz : h.objs.size ≤ h1.objs.size := Nat.le_trans hge1 (Nat.le_of_lt hlt)
 have k1 : KB w hb h0 nsA c' P' l (ps ++ #[rawInt pos.line,rawInt pos.col,.ref cc]) (h1.push (fnMade name (qualnameIn env name name) params body scope clos' doc ((mg "__name__").getD .none) cc ctv)) := by
  refine ⟨⟨n,hfn _ _ (Ne.symm k.PN) ho⟩,⟨codeHd_at k.ct.hd fun o => hfn _ o hcP,Heap.get?_push_of_some _ htb,?_⟩,fun b o eb => hfn b o (fun z => by rw [z,k.nP] at eb;cases eb) (k.st b o eb),fun b o h1 h2 e => hfn b o h2 (k.keep b o h1 h2 e),k.nN,k.nP,k.cN,k.PN⟩
  have : (ps ++ #[rawInt pos.line,rawInt pos.col,Value.ref cc]).toList = ps.toList ++ [rawInt pos.line,rawInt pos.col,.ref cc] := by simp
  rw [this];exact TriplesOk_snoc _ _ _ _ k.ct.ok
 have hfr : h.get? h1.objs.size = none := Heap.get?_none_of_le hz
 refine cls_store hk (.inl hl) hN k1 fun h2 k2 kp => q h2 _ _ h1.objs.size cc k2 (fun b o n1 n2 e => kp b o n1 (hfn b o n2 e)) hfr ?_
 have fN : h1.objs.size ≠ nsA := fun z => by
  have := Heap.lt_size (hx' _ _ (Ne.symm k.PN) ho)
  rw [z] at this;exact absurd this (Nat.lt_irrefl _)
 have cN : cc ≠ nsA := fun z => by
  have := Heap.lt_size ho
  rw [← z] at this;exact absurd this (Nat.not_lt.mpr hge1)
 have cP : cc ≠ P' := fun z => by
  have := Heap.lt_size k.ct.tab
  rw [← z] at this;exact absurd this (Nat.not_lt.mpr hge1)
 refine ⟨doc,_,cc,ctv,kp _ _ fN (Heap.get?_push_size _ rfl),cP,?_⟩
 obtain ⟨c2,o2,vs2,t2,e2,g2,r2⟩ := hrec
 cases e2
 exact ⟨_,o2,vs2,t2,rfl,kp _ _ cN (Heap.get?_push_of_some _ g2),r2⟩
end
end
noncomputable def kQual : Str := ofString "cmp_to_key.<locals>.K"
noncomputable def kStart (t0 t1 t2 tq t3 : Tok) : List DE := [(ofString "__module__",t0,.str (ofString "law_ik0052_01") 520),(ofString "__qualname__",t1,.str kQual tq),(ofString "__firstlineno__",t2,.int 112 t3)]
structure KEnd (w : World) (hb h0 : Heap) (nsA c' P' : Addr) (tq : Tok) (clos : List (Str × Addr)) (pI pL : Arguments) (bI bL : List Stmt) (sI sL : Scope) (h : Heap) (l : List DE) (lst fI fL : Addr) (tl : Tok) : Prop where
 kb : ∃ ps,KB w hb h0 nsA c' P' l ps h
 kl : KL (model PR w) h l lst kQual tq
 le : l.length ≤ 49
 ls : h.IsList lst #[.str (ofString "obj") tl]
 gi : getT (ofString "__init__") l = some (.ref fI)
 gl : getT (ofString "__lt__") l = some (.ref fL)
 no : ∀ x ∈ [ofString "__setattr__",ofString "__getattribute__",ofString "__getattr__",ofString "__call__",ofString "__dict__",ofString "__class__",ofString "__new__"],getT x l = none
 sn : ∀ h2 : Heap,(∀ b o,b ≠ nsA -> b ≠ P' -> h.get? b = some o -> h2.get? b = some o) -> ∀ q ∈ l,NoSN (model PR w) h2 q.2.2
 fi : FnK h P' fI (ofString "__init__") (kQual ++ ofString "." ++ ofString "__init__") pI bI sI []
 fl : FnK h P' fL (ofString "__lt__") (kQual ++ ofString "." ++ ofString "__lt__") pL bL sL clos
noncomputable def SpecBody (body : List Stmt) (ksc : Scope) (pI pL : Arguments) (bI bL : List Stmt) (sI sL : Scope) : Prop :=
 ∀ (w : World) (hb : Heap) (A : Around) (h0 : Heap) (g : Array GenState) (d : Drawn) (t : Nat) (os : OsState) (nsA c' P' frame cell : Addr) (t0 t1 t2 tq t3 : Tok),Gr w hb -> KB w hb h0 nsA c' P' (kStart t0 t1 t2 tq t3) #[] h0 ->
  wpAny (model PR w) A (execs body (clsEnv ksc nsA (kQual ++ ofString ".") c' frame [(ofString "mycmp",cell)])) (fun f s2 => f = .next ∧ ∃ h' t' l lst fI fL tl,s2 = ⟨h',g,d,t',os⟩ ∧ KEnd w hb h0 nsA c' P' tq [(ofString "mycmp",cell)] pI pL bI bL sI sL h' l lst fI fL tl) NoE ⟨h0,g,d,t,os⟩
theorem nosn_fn {M : Model} {h : Heap} {P' f : Addr} {name qual : Str} {params : Arguments} {body : List Stmt} {scope : Scope} {clos : List (Str × Addr)} (x : FnK h P' f name qual params body scope clos) : NoSN M h (.ref f) := by
 obtain ⟨doc,pm,cd,ctv,e,_⟩ := x
 exact nosn_ref e rfl sn_fn
theorem KB.push {w : World} {hb h0 h : Heap} {nsA c' P' : Addr} {l : List DE} {ps : Array Value} {o : Obj} (k : KB w hb h0 nsA c' P' l ps h) : KB w hb h0 nsA c' P' l ps (h.push o) := by
 have p : ∀ b x,h.get? b = some x -> (h.push o).get? b = some x := fun b x e => Heap.get?_push_of_some _ e
 obtain ⟨n,e⟩ := k.ns
 exact ⟨⟨n,p _ _ e⟩,⟨k.ct.hd.keeps p,p _ _ k.ct.tab,k.ct.ok⟩,fun b x e => p b x (k.st b x e),fun b x h1 h2 e => p b x (k.keep b x h1 h2 e),k.nN,k.nP,k.cN,k.PN⟩
section
open Builtin
theorem prep_type : typeOf (.builtin "type.__prepare__") = pure (.type "classmethod_descriptor") := by show builtinType _ = _;rw [builtinType_eq_fast];kernel_rfl
theorem type_type : typeOf (.type "type") = pure (.type "type") := by first | rfl | kernel_rfl
theorem ga_type : typeLookup (.type "type") "__getattribute__" = pure (some (.builtin "type.__getattribute__")) := by rw [typeLookup_type,builtinLookup_eq_fast];kernel_rfl
theorem entry_prep : entryFor table "type.__prepare__" = some Builtin.«type.__prepare__» := entryFor_of_tree (by kernel_rfl)
section
variable {w : World} {A : Around} {h : Heap} {g : Array GenState} {d : Drawn} {t : Nat} {os : OsState}
theorem call_cmP {Q : Value -> Shared -> Prop} (hq : ∀ h' b,h'.get? b = some { cls := .type "builtin_function_or_method",data := .fields #[.builtin "type.__prepare__",.type "type"] } -> (∀ y o,h.get? y = some o -> h'.get? y = some o) -> Q (.ref b) ⟨h',g,d,t,os⟩) :
  wpAny (model PR w) A (call (.builtin "classmethod_descriptor.__get__") [.builtin "type.__prepare__",.none,.type "type"]) Q NoE ⟨h,g,d,t,os⟩ := by
 refine wpAny_call_entry slot_cm_get (T := "classmethod_descriptor") (show (⟨h,g,d,t,os⟩ : Shared).TypeIs (.builtin "type.__prepare__") "classmethod_descriptor" from prep_type) entry_cm_get ?_ (args_cm_get _ _ _)
 delta Builtin.«classmethod_descriptor.__get__»
 have hname : ".".intercalate ("type.__prepare__".cutAt '.').dropLast = "type" := by decide +kernel
 repeat (first | rewrite [hname] | with_reducible apply wp_eq sub_tt | with_reducible apply newObjD | walk_at "tn")
 case hd => simp [sizeOk,sizeLine_eq]
 case hf => exact fun q => by cases q
 intro h' b _ _ _ k hb
 exact wpAny_pure ⟨_,rfl,hq h' b hb k⟩
theorem in_nil {h : Heap} : Frag.In [] h := fun a o e => by cases e
theorem prep_get {Q : Option Value -> Shared -> Prop} (hq : ∀ h' b t',h'.get? b = some { cls := .type "builtin_function_or_method",data := .fields #[.builtin "type.__prepare__",.type "type"] } -> (∀ y o,h.get? y = some o -> h'.get? y = some o) -> Q (some (.ref b)) ⟨h',g,d,t',os⟩) :
  wpAny (model PR w) A (getAttr? (.type "type") (ofString "__prepare__")) Q NoE ⟨h,g,d,t,os⟩ := by
 revert w A h g d t os Q;intros w A h g d t os Q hq
 unfold getAttr? getAttrBy? getAttrBy
 refine wpAny_bind (wpAny_mkText (wpAny_bind (wpAny_attempt ?_)))
 refine wpAny_holding (wpAny_bind (wpAny_of_eq type_type (wpAny_bind (wpAny_of_eq ga_type ?_))))
 show wpAny _ _ (getAttrByItsOwn (.type "type") (.str (ofString "__prepare__") t) (.type "type") (.builtin "type.__getattribute__") false false) _ _ _
 unfold getAttrByItsOwn hookBefore callGetattribute boundAndCalled
 refine wpAny_bind (wpAny_of_eq (show (if onTheHeap (.type "type") then typeLookup (.type "type") "__getattr__" else pure none) = pure none from rfl) ?_)
 refine wpAny_bind (wpAny_attempt (wpAny_holding ?_))
 show wpAny _ _ (bindSpecial (.builtin "type.__getattribute__") (.type "type") >>= _) _ _ _
 refine wpAny_bind (wpAny_of_eq (KF.slot_tga.bind _) ?_)
 refine wpAny_mono (Q := fun v s' => ∃ h' b,v = .ref b ∧ s' = ⟨h',g,d,t + 1,os⟩ ∧ h'.get? b = some { cls := .type "builtin_function_or_method",data := .fields #[.builtin "type.__prepare__",.type "type"] } ∧ ∀ y o,h.get? y = some o -> h'.get? y = some o) (E := NoE)
  (wpAny_call_entry KF.slot_tga (T := "type") (show (⟨h,g,d,t + 1,os⟩ : Shared).TypeIs (.type "type") "type" from type_type) KF.entry_tga ?_ (KF.args_tga _ _)) (fun v s' hv => ?_) fun _ _ z => z.elim
 ·have hfc : findCls [] (.type "type") (.type "type") (ofString "__prepare__") = some (.get (.builtin "classmethod_descriptor.__get__") (.builtin "type.__prepare__") .none (.type "type")) := by kernel_rfl
  have hop : Looks (model PR w) h (opaqueClassAbove (.type "type")) none := Looks.of_pure (by kernel_rfl)
  exact tga_run (prog := PR) (w := w) (s := ⟨h,g,d,t + 1,os⟩) (K := []) (c := .type "type") (mc := .type "type") (name := ofString "__prepare__") (tk := t) in_nil hop (Looks.of_pure type_type) hfc (wpAny_bind (wpAny_holding (call_cmP fun h' b q1 q2 => wpAny_pure ⟨_,rfl,h',b,rfl,rfl,q1,q2⟩)))
 ·obtain ⟨h',b,rfl,rfl,q1,q2⟩ := hv
  exact wpAny_pure (wpAny_pure (hq h' b _ q1 q2))
theorem prep_call {b : Addr} {x y : Value} {kw : List (Str × Value)} {Q : Value -> Shared -> Prop} (hb : h.get? b = some { cls := .type "builtin_function_or_method",data := .fields #[.builtin "type.__prepare__",.type "type"] }) (hkw : kw = [])
  (hq : ∀ h' a,a = h.objs.size -> h.get? a = none -> (∀ y o,h.get? y = some o -> h'.get? y = some o) -> h'.get? a = some (dictOf (ents w.params []) 0) -> Q (.ref a) ⟨h',g,d,t,os⟩) : wpAny (model PR w) A (call (.ref b) [x,y] kw) Q NoE ⟨h,g,d,t,os⟩ := by
 revert w A h g d t os b x y kw Q;intros w A h g d t os b x y kw Q hb hkw hq
 subst hkw
 refine wpAny_call (codeAny_of_tree ?_)
 show wpAny _ A.in1 (callAny (.ref b) _) _ _ _
 delta callAny
 refine wpAny_bind (wpAny_load hb ?_)
 repeat walk_at "tn"
 refine ⟨Code.quiet_builtin _ (by decide +kernel),codeAny_builtin entry_prep ?_⟩
 delta Builtin.«type.__prepare__»
 repeat (first | with_reducible apply newObjD | walk_at "tn")
 case hd => simp [sizeOk,sizeLine_eq]
 case hf => exact fun q => by cases q
 intros h' a ea e9 fa k ha
 exact wpAny_pure (hq h' a ea fa k ha)
end
end
section
structure KSc (ksc : Scope) (body : List Stmt) : Prop where
 kind : ksc.kind = .class
 nc : (ksc.names.lookup (ofString "__class__") == some NameKind.cell) = false
 nd : (ksc.names.lookup (ofString "__classdict__") == some NameKind.cell) = false
 m : ksc.names.lookup (ofString "__module__") = some .local
 q : ksc.names.lookup (ofString "__qualname__") = none
 f : ksc.names.lookup (ofString "__firstlineno__") = none
 s : ksc.names.lookup (ofString "__static_attributes__") = none
 n : ksc.names.lookup (ofString "__name__") = none
 ann : hasAnns body = false
 doc : docOf body = none
section
variable {w : World} {A : Around} {h : Heap} {g : Array GenState} {d : Drawn} {t : Nat} {os : OsState}
theorem class_code {env : Env} {c P : Addr} {ps : Array Value} {pos : Pos} {fl : Nat} {name qual : Str} {scope : Scope} {E : Value -> Shared -> Prop} {Q : Value -> Shared -> Prop} (hc : env.code = .ref c) (C : CT h c P ps) (hnf : codeAmong pos ps.toList = none)
  (q : ∀ c' P' h' tk,Heap.ExtBut P h h' -> h.objs.size ≤ c' -> h.objs.size ≤ P' -> h'.get? P = some (tabObj (ps ++ #[rawInt pos.line,rawInt pos.col,.ref c'])) -> CT h' c' P' #[] -> h'.CodeRec (.ref c') qual ->
   Q (.ref c') ⟨h',g,d,tk,os⟩) : wpAny (model PR w) A (classCode env pos fl name qual scope) Q E ⟨h,g,d,t,os⟩ := by
 unfold classCode
 exact code_new (s := ⟨h,g,d,t,os⟩) hc C hnf (fun ctx => ⟨_,_,_,_,_,_,_,_,_,_,_,rfl⟩) q
theorem builtins_forD {globals running bm : Addr} {m : Str -> Option Value} {o : Obj} {E : Value -> Shared -> Prop} {Q : Addr -> Shared -> Prop} (hg : h.Ns globals m) (hb : m (ofString "__builtins__") = some (.ref bm))
  (hne : bm ≠ builtinsNs) (ho : h.get? bm = some o) (hcls : o.cls = .type "module") (hdict : o.dict = some builtinsNs) (hdata : o.data = .plain) (q : Q builtinsNs ⟨h,g,d,t,os⟩) : wpAny (model PR w) A (builtinsFor globals running) Q E ⟨h,g,d,t,os⟩ :=
 wpAny_builtinsFor (s := ⟨h,g,d,t,os⟩) hg hb hne ho hcls hdict hdata q
theorem nsGetN {a : Addr} {m : Str -> Option Value} {x : Str} {v : Value} {E : Value -> Shared -> Prop} {Q : Option Value -> Shared -> Prop} (hn : h.Ns a m) (e : m x = some v) (q : Q (some v) ⟨h,g,d,t,os⟩) : wpAny (model PR w) A (nsGet a x) Q E ⟨h,g,d,t,os⟩ := wpAny_nsGet (s := ⟨h,g,d,t,os⟩) hn (by rw [e];exact q)
theorem closD {scope : Scope} {env : Env} {clos : List (Str × Addr)} {E : Value -> Shared -> Prop} {Q : List (Str × Addr) -> Shared -> Prop} (e : closureFor scope env = pure clos) (q : Q clos ⟨h,g,d,t,os⟩) : wpAny (model PR w) A (closureFor scope env) Q E ⟨h,g,d,t,os⟩ := wpAny_of_eq e q
theorem enterD {E : Value -> Shared -> Prop} {Q : Unit -> Shared -> Prop} (hl : h.NoLimit) (hd : A.depth < recursionLimit) (q : Q () ⟨h,g,d,t,os⟩) : wpAny (model PR w) A enterFrame Q E ⟨h,g,d,t,os⟩ := wpAny_enterFrame (s := ⟨h,g,d,t,os⟩) hl hd q
theorem textTupD {items : List Value} {E : Value -> Shared -> Prop} {Q : Value -> Shared -> Prop} (q : ∀ h' a,h.get? a = none -> (∀ y o,h.get? y = some o -> h'.get? y = some o) -> h' = h.push { cls := .type "tuple",data := .seq items.toArray } -> h'.get? a = some { cls := .type "tuple",data := .seq items.toArray } -> Q (.ref a) ⟨h',g,d,t,os⟩) : wpAny (model PR w) A (newTextTuple items) Q E ⟨h,g,d,t,os⟩ :=
 wpAny_newTextTuple (s := ⟨h,g,d,t,os⟩) (q _ _ (Heap.get?_none_of_le (Nat.le_refl _)) (fun _ _ e => Heap.get?_push_of_some _ e) rfl (Heap.get?_push_size _ rfl))
theorem runD {M : Model} {s : Shared} {c : Code} {E : Value -> Shared -> Prop} {Q : Flow -> Shared -> Prop} (hc : codeAny M (A.mark none) c (fun r s' => match r with | .ok f => Q f s' | .error e => E e s') s) : wpAny M A (run c) Q E s := wpAny_run (h := none) hc
theorem call_type3G {l : List DE} {T nsA lst : Addr} {n : Nat} {tl tn tq : Tok} {qual : Str} {kw : List (Str × Value)} {Q : Value -> Shared -> Prop} (hk : kw = []) (kl : KL (model PR w) h l lst qual tq)
  (hT : h.get? T = some { cls := .type "tuple",data := .seq #[.type "object"] }) (hns : h.get? nsA = some (dictOf (ents w.params l) n)) (hne : nsA ≠ sysModules)
  (hL : h.IsList lst #[.str (ofString "obj") tl]) (hqn : qual = ofString "cmp_to_key.<locals>.K") (X : (hd.heap_1 w.params).In h)
  (hQ : ∀ h' tk' a N mem t1 t2 t3 n',(∀ b o,h.get? b = some o -> h'.get? b = some o) -> (h.get? a = none ∧ h.get? N = none) -> h'.get? a = some (clsK T N a tn tq qual) -> h'.get? N = some (dictOf (ents w.params (lK l mem t1 t2)) n') -> h'.get? mem = some (memObj a t3) -> Q (.ref a) ⟨h',g,d,tk',os⟩) :
  wpAny (model PR w) A (call (.type "type") [.str (ofString "K") tn,.ref T,.ref nsA] kw) Q NoE ⟨h,g,d,t,os⟩ := by
 subst hk;exact call_type3 (s := ⟨h,g,d,t,os⟩) kl hT hns hne hL hqn X hQ
noncomputable def KClsN (w : World) (h : Heap) (C N cell : Addr) (pI pL : Arguments) (bI bL : List Stmt) (sI sL : Scope) : Prop :=
 ∃ T mem l t1 t2 t3 tn tq n fI fL P',h.get? C = some (clsK T N C tn tq kQual) ∧ h.get? N = some (dictOf (ents w.params (lK l mem t1 t2)) n) ∧ h.get? mem = some (memObj C t3) ∧ getT (ofString "__init__") l = some (.ref fI) ∧ getT (ofString "__lt__") l = some (.ref fL) ∧
  (∀ x ∈ [ofString "__setattr__",ofString "__getattribute__",ofString "__getattr__",ofString "__call__",ofString "__dict__",ofString "__class__",ofString "__new__"],getT x l = none) ∧
  FnK h P' fI (ofString "__init__") (kQual ++ ofString "." ++ ofString "__init__") pI bI sI [] ∧ FnK h P' fL (ofString "__lt__") (kQual ++ ofString "." ++ ofString "__lt__") pL bL sL [(ofString "mycmp",cell)]
theorem FnK.keeps {h h' : Heap} {f P' : Addr} {name qual : Str} {params : Arguments} {body : List Stmt} {scope : Scope} {clos : List (Str × Addr)} (x : FnK h P' f name qual params body scope clos) (k : ∀ b o,h.get? b = some o -> h'.get? b = some o) : FnK h' P' f name qual params body scope clos := by
 obtain ⟨doc,pm,cd,ctv,e,hc,r⟩ := x
 exact ⟨doc,pm,cd,ctv,k _ _ e,hc,r.keeps k⟩
theorem cls_name {hb h0 : Heap} {nsA c' P' : Addr} {l : List DE} {ps : Array Value} {env : Env} {E : Value -> Shared -> Prop} {Q : Value -> Shared -> Prop} (G : Gr w hb) (hk : env.scope.kind = .class) (hn : env.kindOf (ofString "__name__") = none) (hN : env.locals = nsA) (hge : env.globals = mainGlobals) (k : KB w hb h0 nsA c' P' l ps h) (e : getT (ofString "__name__") l = none)
  (q : Q (.str (ofString "law_ik0052_01") 520) ⟨h,g,d,t,os⟩) : wpAny (model PR w) A (loadName env (ofString "__name__")) Q E ⟨h,g,d,t,os⟩ := by
 revert w A h g d t os hb h0 nsA c' P' l ps env E Q;intros w A h g d t os hb h0 nsA c' P' l ps env E Q G hk hn hN hge k e q
 obtain @⟨mg,hg,_,_,hv⟩ := k.glob G
 obtain @⟨n,ho⟩ := k.ns
 unfold loadName
 refine wp_ifn (by rw [hk];simp [ScopeKind.isAnnotationScope]) ?_
 have hbk : env.blockKind = .class := by unfold Env.blockKind;rw [hk];rfl
 rw [hbk,hn]
 dsimp only
 refine wp_ifn (by decide +kernel) ?_
 unfold localGet
 rw [hN]
 refine wpAny_bind (wpAny_bind (wpAny_load ho (wp_ifp (by rfl) (nsGetDn ho e ?_))))
 dsimp only
 unfold loadGlobal
 rw [hge]
 refine wpAny_bind (nsGetN hg hv ?_)
 exact wpAny_pure q
set_option maxHeartbeats 2000000 in
theorem build_K {body : List Stmt} {ksc : Scope} {pI pL : Arguments} {bI bL : List Stmt} {sI sL : Scope} (SB : SpecBody body ksc pI pL bI bL sI sL) (KS : KSc ksc body) {hb : Heap} {env : Env} {c P cell : Addr} {ps : Array Value} {kpos : Pos} (G : Gr w hb) (hcode : env.code = .ref c) (C : CT h c P ps) (hnf : codeAmong kpos ps.toList = none)
  (hge : env.globals = mainGlobals) (hbi : env.builtins = builtinsNs) (hcl : closureFor ksc env = pure [(ofString "mycmp",cell)]) (hst : hb.StaysIn h) (hsz : hb.objs.size ≤ h.objs.size) (hP : hb.get? P = none) (hdp : A.depth < recursionLimit) {Q : Value -> Shared -> Prop}
  (hQ : ∀ h' t' C N,(∀ b o,b ≠ P -> h.get? b = some o -> h'.get? b = some o) -> (∃ ps',h'.get? P = some (tabObj ps') ∧ TriplesOk ps'.toList) -> h.get? C = none -> h.get? N = none -> KClsN w h' C N cell pI pL bI bL sI sL -> Q (.ref C) ⟨h',g,d,t',os⟩) :
  wpAny (model PR w) A (buildClass (ofString "K") kQual [.type "object"] [] body ksc [ofString "obj"] 112 env kpos none) Q NoE ⟨h,g,d,t,os⟩ := by
 revert w A h g d t os body ksc pI pL bI bL sI sL hb env c P cell ps kpos Q;intros w A h g d t os body ksc pI pL bI bL sI sL SB KS hb env c P cell ps kpos G hcode C hnf hge hbi hcl hst hsz hP hdp Q hQ
 delta buildClass
 repeat (first | with_reducible refine newObjD ?_ ?_ ?_ | walk_at "tn")
 ·simp [sizeOk,sizeLine_eq]
 ·exact fun q => by cases q
 intros h1 T eT eh1 fT k1 hT
 repeat (first | with_reducible refine wq_for1 ?_ | with_reducible refine wp_eq type_object ?_ | with_reducible refine wp_eq sub_tt ?_ | with_reducible refine mkTextD ?_ | with_reducible refine prep_get ?_ | walk_at "tn")
 intros h2 b t2 hb2 k2
 repeat (first | with_reducible refine prep_call hb2 ?_ ?_ | walk_at "tn")
 ·rfl
 intros h3 nsA eN fN k3 hN
 have gz : h.objs.size ≤ nsA := by
  have := Heap.lt_size (k2 _ _ hT)
  rw [← eN,eT] at this;exact Nat.le_of_lt this
 have hnm : nsA ≠ sysModules := by
  intro q
  obtain @⟨p,loose,mg,mb,TT⟩ := G.T
  obtain @⟨o,es,ep,eo,_⟩ := TT.g
  have := Heap.lt_size eo
  have hm : (3 : Nat) < hb.objs.size := this
  have hs : sysModules = (1 : Nat) := rfl
  rw [hs] at q
  exact absurd (Nat.le_trans hsz gz) (by rw [q];omega)
 repeat walk_at "tn"
 refine wp_ifn (by simpa using hnm) ?_
 have tG : Looks (model PR w) h3 (specialOf (.ref nsA) (ofString "__getitem__")) (some (.builtin "dict.__getitem__")) := ((Looks.ld (part := none) hN).andThen .now).andThen (Looks.of_pure gi_dict)
 repeat (first | with_reducible refine Looks.at tG ?_ | walk_at "tn")
 refine wp_ifn (by rw [KS.nc];decide) ?_
 repeat walk_at "tn"
 refine wp_ifn (by rw [KS.nd];decide) ?_
 have C3 : CT h3 c P ps := ⟨C.hd.keeps fun b o e => k3 b o (k2 b o (k1 b o e)),k3 _ _ (k2 _ _ (k1 _ _ C.tab)),C.ok⟩
 repeat (first | with_reducible refine class_code hcode C3 hnf ?_ | walk_at "tn")
 intros c' P' h4 t4 x4 gc gP hP4 C4 r4
 have hx4 : ∀ b o,b ≠ P -> h3.get? b = some o -> h4.get? b = some o := x4
 have up3 : ∀ b o,h.get? b = some o -> h3.get? b = some o := fun b o e => k3 b o (k2 b o (k1 b o e))
 have hst4 : hb.StaysIn h4 := fun b o e => hx4 b o (fun z => by rw [z,hP] at e;cases e) (up3 b o (hst b o e))
 obtain @⟨p,loose,mg,mb,TT⟩ := G.T
 obtain @⟨ob,b1,b2',b3,b4⟩ := G.B
 have eb := mg_of G.X TT.g (show nsIn (hd.heap_1 w.params) mainGlobals (ofString "__builtins__") = some (some (.ref 4)) by k_is)
 have en := mg_of G.X TT.g (show nsIn (hd.heap_1 w.params) mainGlobals (ofString "__name__") = some (some (.str (ofString "law_ik0052_01") 520)) by k_is)
 have hg4 := TT.g.keeps hst4
 have h40 : (4 : Addr) ≠ builtinsNs := by decide
 have h4o := hst4 _ _ b1
 rw [hge,hbi]
 repeat (first | with_reducible refine builtins_forD hg4 eb h40 h4o b2' b3 b4 ?_ | with_reducible refine nsGetN hg4 en ?_ | with_reducible refine allocD ?_ ?_ | walk_at "tn")
 ·rfl
 intros h5 fr efr eh5 ffr k5 hfr
 have nl5 : h5.NoLimit := TT.nolimit.keeps fun b o e => k5 b o (hst4 b o e)
 have hPn : hb.get? P' = none := by
  cases e : hb.get? P' with
  | none => rfl
  | some o => exact absurd (Heap.lt_size (up3 _ _ (hst _ _ e))) (Nat.not_lt.mpr gP)
 have hNn : hb.get? nsA = none := by
  cases e : hb.get? nsA with
  | none => rfl
  | some o => exact absurd (Heap.lt_size (hst _ _ e)) (Nat.not_lt.mpr gz)
 have nP : nsA ≠ P := fun z => by
  have := Heap.lt_size C.tab
  rw [← z] at this;exact absurd this (Nat.not_lt.mpr gz)
 have nc' : c' ≠ nsA := fun z => by
  have := Heap.lt_size hN
  rw [← z] at this;exact absurd this (Nat.not_lt.mpr gc)
 have nP' : P' ≠ nsA := fun z => by
  have := Heap.lt_size hN
  rw [← z] at this;exact absurd this (Nat.not_lt.mpr gP)
 have kb : KB w hb h5 nsA c' P' [] #[] h5 := ⟨⟨0,k5 _ _ (hx4 _ _ nP hN)⟩,⟨C4.hd.keeps k5,k5 _ _ C4.tab,C4.ok⟩,fun b o e => k5 b o (hst4 b o e),fun b o _ _ e => e,hNn,hPn,nc',nP'⟩
 repeat (first | with_reducible refine closD hcl ?_ | with_reducible refine enterD nl5 hdp ?_ | with_reducible refine wpAny_onRaise ?_ | with_reducible refine cls_name G ?_ ?_ ?_ ?_ kb ?_ ?_ | walk_at "tn")
 ·exact KS.kind
 ·exact KS.n
 ·rfl
 ·rfl
 ·rfl
 repeat (first | with_reducible refine cls_store ?_ ?_ ?_ kb ?_ | walk_at "tn")
 ·exact KS.kind
 ·exact .inl KS.m
 ·rfl
 intros h6 kb6 p6
 repeat (first | with_reducible refine mkTextD ?_ | with_reducible refine cls_store ?_ ?_ ?_ kb6 ?_ | walk_at "tn")
 ·exact KS.kind
 ·exact .inr ⟨KS.q,by decide +kernel⟩
 ·rfl
 intros h7 kb7 p7
 repeat (first | with_reducible refine wpAny_mkInt' ?_ | with_reducible refine cls_store ?_ ?_ ?_ kb7 ?_ | walk_at "tn")
 ·exact KS.kind
 ·exact .inr ⟨KS.f,by decide +kernel⟩
 ·rfl
 intros h8 kb8 p8
 have kbS : KB w hb h8 nsA c' P' (kStart t4 (t4 + 1 + 1) (t4 + 1 + 1 + 1 + 1) (t4 + 1) (t4 + 1 + 1 + 1)) #[] h8 := ⟨kb8.ns,kb8.ct,kb8.st,fun _ _ _ _ e => e,kb8.nN,kb8.nP,kb8.cN,kb8.PN⟩
 repeat (first | with_reducible refine runD ?_ | walk_at "tn")
 refine codeAny_body KS.ann KS.doc (wpAny_mono (SB w hb _ h8 g d _ os nsA c' P' fr cell _ _ _ _ _ G kbS) ?_ fun _ _ z => z.elim)
 intros f s2 hf
 obtain @⟨rfl,h9,t9,l9,lst,fI,fL,tl,rfl,ke⟩ := hf
 obtain @⟨ps9,kb9⟩ := ke.kb
 repeat (first | with_reducible refine wpAny_onRaise ?_ | with_reducible refine mkTextD ?_ | with_reducible refine textTupD ?_ | walk_at "tn")
 intros h10 tup ftup k10 eh10 htup
 have kb10 : KB w hb h8 nsA c' P' l9 ps9 h10 := by rw [eh10];exact kb9.push
 repeat (first | with_reducible refine cls_store ?_ ?_ ?_ kb10 ?_ | walk_at "tn")
 ·exact KS.kind
 ·exact .inr ⟨KS.s,by decide +kernel⟩
 ·rfl
 intros h11 kb11 p11
 have k9to11 : ∀ b o,b ≠ nsA -> b ≠ P' -> h9.get? b = some o -> h11.get? b = some o := fun b o n1 _ e => p11 b o n1 (k10 b o e)
 have k3to11 : ∀ b o,b ≠ P -> b ≠ nsA -> b ≠ P' -> h3.get? b = some o -> h11.get? b = some o := fun b o n0 n1 n2 e => k9to11 b o n1 n2 (kb9.keep b o n1 n2 (p8 b o n1 (p7 b o n1 (p6 b o n1 (k5 b o (hx4 b o n0 e))))))
 have hTh : h.get? T = none := fT
 have TP : T ≠ P := fun z => by rw [z,C.tab] at hTh;cases hTh
 have TN : T ≠ nsA := fun z => by have e := k2 _ _ hT;rw [z,fN] at e;cases e
 have TP' : T ≠ P' := fun z => by
  have := Heap.lt_size (k3 _ _ (k2 _ _ hT))
  rw [z] at this;exact absurd this (Nat.not_lt.mpr gP)
 have hT11 := k3to11 _ _ TP TN TP' (k3 _ _ (k2 _ _ hT))
 obtain @⟨n11,hN11⟩ := kb11.ns
 obtain @⟨n9,hN9⟩ := kb9.ns
 have lN : lst ≠ nsA := fun z => by obtain @⟨oL,eL,cL,_⟩ := ke.ls;rw [z,hN9] at eL;cases eL;simp at cL
 have lP : lst ≠ P' := fun z => by obtain @⟨oL,eL,cL,_⟩ := ke.ls;rw [z,kb9.ct.tab] at eL;cases eL;simp at cL
 have hL11 := isList_move ke.ls (k9to11 _ · lN lP)
 have gS : ∀ {x : Str} {r : Option Value},x ≠ ofString "__static_attributes__" -> getT x l9 = r -> getT x (putT (ofString "__static_attributes__") (t9 + 1) (.ref tup) l9) = r := fun hx e => (getT_put_other hx _ _ _).trans e
 have kl11 : KL (model PR w) h11 (putT (ofString "__static_attributes__") (t9 + 1) (.ref tup) l9) lst kQual t4.succ := by
  obtain @⟨ve,hve⟩ := ke.kl.eq
  obtain @⟨vh,hvh⟩ := ke.kl.hash
  refine ⟨gS (by decide) ke.kl.slots,gS (by decide) ke.kl.obj,?_,gS (by decide) ke.kl.qual,gS (by decide) ke.kl.doc,gS (by decide) ke.kl.new,gS (by decide) ke.kl.isub,gS (by decide) ke.kl.cgi,gS (by decide) ke.kl.cc,gS (by decide) ke.kl.cd,gS (by decide) ke.kl.del,⟨ve,gS (by decide) hve⟩,⟨vh,gS (by decide) hvh⟩,fun q hq => ?_,?_⟩
  ·rw [gS (by decide) rfl];exact ke.kl.mod
  ·rcases mem_put hq with e | hq
   ·rw [e]
    have tN : tup ≠ nsA := fun z => by rw [z,hN9] at ftup;cases ftup
    exact nosn_ref (p11 _ _ tN htup) rfl sn_tuple
   ·exact ke.sn h11 k9to11 q hq
  ·have := ke.kl.len
   have hl9 : l9.length ≤ 49 := ke.le
   have := len_put (x := ofString "__static_attributes__") (t := t9 + 1) (v := Value.ref tup) l9
   omega
 have X11 : (hd.heap_1 w.params).In h11 := fun b o e => kb11.st b o (G.X b o e)
 repeat (first | with_reducible refine call_type3G ?_ kl11 hT11 hN11 hnm hL11 ?_ X11 ?_ | walk_at "tn")
 ·rfl
 ·rfl
 intros h12 t12 a N mem s1 s2 s3 n12 k12 fa ha hN12 hm12
 repeat walk_at "tn"
 have nN0 : h.get? nsA = none := Heap.get?_none_of_le gz
 have nP0 : h.get? P' = none := by
  cases e : h.get? P' with
  | none => rfl
  | some o => exact absurd (Heap.lt_size (up3 _ _ e)) (Nat.not_lt.mpr gP)
 have PP' : P ≠ P' := fun z => by have e := C.tab;rw [z,nP0] at e;cases e
 have hP11 := k9to11 _ _ (Ne.symm nP) PP' (kb9.keep _ _ (Ne.symm nP) PP' (p8 _ _ (Ne.symm nP) (p7 _ _ (Ne.symm nP) (p6 _ _ (Ne.symm nP) (k5 _ _ hP4)))))
 have up11 : ∀ b o,b ≠ P -> h.get? b = some o -> h11.get? b = some o := fun b o nb e => k3to11 b o nb (fun z => by rw [z,nN0] at e;cases e) (fun z => by rw [z,nP0] at e;cases e) (up3 b o e)
 have gS' : ∀ {x : Str} {r : Option Value},x ≠ ofString "__static_attributes__" -> getT x l9 = r -> getT x (putT (ofString "__static_attributes__") (t9 + 1) (.ref tup) l9) = r := fun hx e => gS hx e
 refine hQ h12 t12 a N (fun b o nb e => k12 b o (up11 b o nb e)) ⟨_,k12 _ _ hP11,?_⟩ ?_ ?_ ⟨T,mem,_,s1,s2,s3,_,_,n12,fI,fL,P',ha,hN12,hm12,gS (by decide) ke.gi,gS (by decide) ke.gl,fun x hx => ?_,?_,?_⟩
 ·have e : (ps ++ #[rawInt kpos.line,rawInt kpos.col,Value.ref c']).toList = ps.toList ++ [rawInt kpos.line,rawInt kpos.col,.ref c'] := by simp
  rw [e];exact TriplesOk_snoc _ _ _ _ C.ok
 ·cases e : h.get? a with
  | none => rfl
  | some o =>
   obtain @⟨fa,-⟩ := fa
   by_cases z : a = P
   ·rw [z,hP11] at fa;cases fa
   ·rw [up11 a o z e] at fa;cases fa
 ·cases e : h.get? N with
  | none => rfl
  | some o =>
   obtain @⟨-,fa⟩ := fa
   by_cases z : N = P
   ·rw [z,hP11] at fa;cases fa
   ·rw [up11 N o z e] at fa;cases fa
 ·have e := ke.no x hx
  refine gS ?_ e
  simp only [List.mem_cons,List.not_mem_nil,or_false] at hx
  rcases hx with rfl | rfl | rfl | rfl | rfl | rfl | rfl <;> decide
 ·exact (ke.fi.move k9to11 ⟨_,_,hN9⟩ ⟨_,kb9.ct.tab⟩).keeps k12
 ·exact (ke.fl.move k9to11 ⟨_,_,hN9⟩ ⟨_,kb9.ct.tab⟩).keeps k12
end
end
theorem spec_enterR {m : Nat} {f : Addr} {ρ : List (Str × D)} {w : World} {hb : Heap} {W U : List Addr} {I : Asr W} {R : Value -> Shared -> Prop} {A : Around} {s : Shared} {vs : List Value} {binds : List (Str × Value)}
  {name qual : Str} {params : Arguments} {body : List Stmt} {scope : Scope} {dV kV doc pm cdv ct oc : Value} {an od : Option Addr} {osl : Array (Option Value)}
  (g : Amb w hb W U) (room : Room A (m + 1)) (hst : hb.StaysIn s.heap) (hsz : hb.objs.size ≤ s.heap.objs.size) (hW : WIn W s.heap) (hI : I.P s.heap)
  (ho : (hd.heap_1 w.params).lookup f = some ⟨oc,od,.func (fnOf name qual params body scope dV kV doc pm an cdv ct),osl⟩) (hcd : codeIn (hd.heap_1 w.params) cdv qual = true)
  (hbind : bindArgs (fnOf name qual params body scope dV kV doc pm an cdv ct) ⟨vs,[]⟩ = pure binds) (hρ : BRel W s.heap ρ binds.reverse)
  (hkind : (binds.all fun y => scope.names.lookup y.1 == some .local || scope.names.lookup y.1 == some .cell) = true)
  (hnd : ((cellsFrom 0 scope.names []).map (·.1)).Nodup)
  (h : ∀ (A' : Around) (env : Env) (s0 : Shared) (L : Addr),env = envOfC qual scope L f cdv -> s.heap.objs.size ≤ L -> (∀ b o,s.heap.get? b = some o -> s0.heap.get? b = some o) -> (Cx.mk w hb W U A' env).Ok m -> JP (Cx.mk w hb W U A' env) (Sto (Cx.mk w hb W U A' env) I s0 ρ) body (fun fl s' => ∃ v,(fl = .ret v ∨ (fl = .next ∧ v = .none)) ∧ Ext (Cx.mk w hb W U A' env).V s0 s' ∧ R v s'))
  (hco : scope.isCoroutine = false) (hgen : scope.isGenerator = false) (hk : scope.kind = .function) :
  wpAny (model PR w) A (call (.ref f) vs) (fun v s' => Ext U s s' ∧ R v s') NoE s := by
 obtain ⟨p,loose,mg,mb,T⟩ := g.g.T
 refine wpAny_call ?_
 refine codeAny_call_cells (fd := fnOf name qual params body scope dV kV doc pm an cdv ct) (by have := room.dp;simp only [recursionLimit];omega) (hst _ _ (g.g.X _ _ ho)) rfl (T.nolimit.keeps hst) (codeRec_of (K := hd.heap_1 w.params) (fun a o e => hst a o (g.g.X a o e)) hcd) rfl hbind rfl
  (fun x hx => kindsX hkind _ x hx) (fun s0 X => ?_) hco hgen hk
 have henv : callEnvC (fnOf name qual params body scope dV kV doc pm an cdv ct) s.heap.objs.size f = envOfC qual scope s.heap.objs.size f cdv := rfl
 rw [henv] at X ⊢
 obtain ⟨h0,tk,rfl,hkp⟩ := X.done
 have e0 : Ext [] s { s with heap := h0,toks := tk } := ⟨fun b o _ => hkp b o,rfl,fun x => x⟩
 have hLW : s.heap.objs.size ∉ W := hW.fresh
 have above : ∀ n a,(n,a) ∈ (envOfC qual scope s.heap.objs.size f cdv).cells -> s.heap.objs.size < a := X.above
 have okc : Cx.Ok ⟨w,hb,W,U,A.deeper (envOfC qual scope s.heap.objs.size f cdv),envOfC qual scope s.heap.objs.size f cdv⟩ m := by
  refine ⟨g.g,⟨hk,X.apart,fun n a hm => Nat.ne_of_gt (above n a hm),fun n a hm _ => ?_,rfl,rfl⟩,⟨room.hh,?_,?_⟩,g.sub,g.wh⟩
  ·cases e : hb.get? a with
   | none => rfl
   | some o => exact absurd (Nat.lt_of_lt_of_le (Heap.lt_size e) hsz) (Nat.not_lt.mpr (Nat.le_of_lt (above n a hm)))
  ·have := room.dp;simp only [Around.deeper];omega
  ·have := room.un;simp only [Around.deeper];omega
 have S0 : Sta ⟨w,hb,W,U,A.deeper (envOfC qual scope s.heap.objs.size f cdv),envOfC qual scope s.heap.objs.size f cdv⟩ I ρ { s with heap := h0,toks := tk } := by
  refine ⟨⟨⟨_,⟨X.toInCall.ns,fun b o e => hkp b o (hst b o e),hsz⟩,fun x d e => ?_⟩,fun n a hm => ?_,hLW⟩,hW.ext e0,I.st [] _ _ e0.keep (fun _ q => nomatch q) hI⟩
  ·obtain ⟨v,hv,r⟩ := hρ.look e
   have hmem := mem_of_lookup hv
   have hkx := List.all_eq_true.mp hkind (x,v) (List.mem_reverse.mp hmem)
   by_cases hl : scope.names.lookup x = some .local
   ·exact .inl ⟨hl,v,by rw [bindL_look hl,hv];rfl,r.ext e0⟩
   ·have hc : scope.names.lookup x = some .cell := by simpa [hl] using hkx
    have hcl := (kindsX hkind (s.heap.objs.size + 1) (x,v) (List.mem_reverse.mp hmem)).resolve_left hl
    obtain ⟨a,ha⟩ := Option.isSome_iff_exists.mp hcl.2
    refine .inr ⟨.inl hc,a,v,ha,?_,r.ext e0⟩
    have := X.cell x a ha
    rw [bindC_look (by show scope.names.lookup x ≠ _;rw [hc];decide),hv] at this
    exact this
  ·refine ⟨?_,fun q => ?_⟩
   ·exact ⟨_,X.cell n a (look_of_mem (by show ((cellsFrom (s.heap.objs.size + 1) scope.names []).map (·.1)).Nodup;rw [cells_names _ 0 scope.names [] [] rfl];exact hnd) hm)⟩
   ·obtain ⟨o,e⟩ := hW a q
    exact absurd (Nat.lt_trans (Heap.lt_size e) (above n a hm)) (Nat.lt_irrefl _)
 refine fin (h _ _ _ s.heap.objs.size rfl (Nat.le_refl _) hkp okc _ ⟨Ext.refl _ _,S0⟩) fun fl s' r => ?_
 obtain ⟨v,hv,e,rr⟩ := r
 have e2 : Ext U s s' := ⟨fun b o nb eb => e.keep b o (fun q => ?_) (hkp b o eb),e.os,e.gens⟩
 ·rcases hv with rfl | ⟨rfl,rfl⟩ <;> exact ⟨e2,rr⟩
 ·have hlt := Heap.lt_size eb
  rcases List.mem_append.mp q with q | q
  ·exact nb q
  ·rcases List.mem_cons.mp q with q | q
   ·subst q;exact absurd hlt (Nat.lt_irrefl _)
   ·obtain ⟨⟨n,a⟩,hm,rfl⟩ := List.mem_map.mp q
    exact absurd (Nat.lt_trans hlt (above n a hm)) (Nat.lt_irrefl _)
theorem boot_bc : bootBuiltins (ofString "__build_class__") = some (.builtin "__build_class__") := by decide +kernel
theorem boot_object : bootBuiltins (ofString "object") = some (.type "object") := by decide +kernel
noncomputable def tabI : Asr [184] where
 P := fun h => h.get? 184 = some (tabObj #[])
 st := fun V h h' k hV x => k 184 _ (fun q => (hV 184 q).1 (by simp)) x
noncomputable def KOut (w : World) (h0 : Heap) (pI pL : Arguments) (bI bL : List Stmt) (sI sL : Scope) (mycmp : Value) (v : Value) (s : Shared) : Prop :=
 ∃ C N cell,v = .ref C ∧ (∃ ps',s.heap.get? 184 = some (tabObj ps') ∧ TriplesOk ps'.toList) ∧ s.heap.IsCell cell (some mycmp) ∧ KClsN w s.heap C N cell pI pL bI bL sI sL ∧ h0.get? N = none
theorem KClsN.move {w : World} {h h' : Heap} {C N cell : Addr} {pI pL : Arguments} {bI bL : List Stmt} {sI sL : Scope} (x : KClsN w h C N cell pI pL bI bL sI sL)
  (k : ∀ b o,(∀ es n,o.data ≠ .dict es n) -> (∀ v,o.data ≠ .cell v) -> h.get? b = some o -> h'.get? b = some o) (kN : ∀ o,h.get? N = some o -> h'.get? N = some o) : KClsN w h' C N cell pI pL bI bL sI sL := by
 revert w h h' C N cell pI pL bI bL sI sL;intros w h h' C N cell pI pL bI bL sI sL x k kN
 obtain @⟨T,mem,l,t1,t2,t3,tn,tq,n,fI,fL,P',e1,e2,e3,e4,e5,e6,e7,e8⟩ := x
 have kf : ∀ {f name qual params body scope clos},FnK h P' f name qual params body scope clos -> FnK h' P' f name qual params body scope clos := by
  intros f name qual params body scope clos x
  obtain @⟨doc,pm,cd,ctv,e,hcP,c2,o2,vs2,t2,e2,g2,hd2,r2⟩ := x
  cases e2
  exact ⟨doc,pm,_,ctv,k _ _ (fun _ _ q => by cases q) (fun _ q => by cases q) e,hcP,_,o2,vs2,t2,rfl,k _ _ (fun _ _ q => by rw [q] at hd2;cases hd2) (fun _ q => by rw [q] at hd2;cases hd2) g2,hd2,r2⟩
 exact ⟨T,mem,l,t1,t2,t3,tn,tq,n,fI,fL,P',k _ _ (fun _ _ q => by cases q) (fun _ q => by cases q) e1,kN _ e2,k _ _ (fun _ _ q => by cases q) (fun _ q => by cases q) e3,e4,e5,e6,kf e7,kf e8⟩
noncomputable def tabI2 : Asr [184] where
 P := fun h => ∃ ps,h.get? 184 = some (tabObj ps) ∧ TriplesOk ps.toList
 st := fun V h h' k hV x => let ⟨ps,e,q⟩ := x;⟨ps,k 184 _ (fun q => (hV 184 q).1 (by simp)) e,q⟩
theorem evalArgs_pos {M : Model} {A : Around} {E : Value -> Shared -> Prop} {s : Shared} {f : Value} {x : Sem Value} {rest : List (Bool × Sem Value)} {Q : Args -> Shared -> Prop} (h : wpAny M A (spliced ((false,x) :: rest)) (fun vs s' => Q ⟨vs,[]⟩ s') E s) : wpAny M A (evalArgs f false ((false,x) :: rest) []) Q E s := by
 unfold evalArgs
 show wpAny M A (spliced ((false,x) :: rest) >>= _) Q E s
 refine wpAny_bind (wpAny_mono h (fun vs s' h' => ?_) fun _ _ x => x)
 refine wpAny_bind (wpAny_pure ?_)
 refine wpAny_holding ?_
 exact wpAny_bind (wpAny_pure (wpAny_bind (wpAny_pure (wpAny_pure h'))))
theorem hcd188 (P : Params) : codeHdIn (hd.heap_1 P) 188 184 = true := by kernel_rfl
theorem class_K {w : World} {hb : Heap} {A : Around} {env : Env} {n : Nat} {s0 : Shared} {body rest : List Stmt} {ksc scope : Scope} {ts : Option Scope} {pI pL : Arguments} {bI bL : List Stmt} {sI sL : Scope} {kpos opos : Pos} {L : Addr} {mycmp : Value} {ρ : List (Str × D)}
  (SB : SpecBody body ksc pI pL bI bL sI sL) (KS : KSc ksc body) (henv : env = envOfC (ofString "cmp_to_key") scope L 189 (.ref 188)) (ok : (Cx.mk w hb [184] [184] A env).Ok n)
  (hK : scope.names.lookup (ofString "K") = some .local) (hO : scope.names.lookup (ofString "object") = some .globalImplicit) (hl : kpos.line = 112)
  (hcl : ∀ a,env.cells.lookup (ofString "mycmp") = some a -> closureFor ksc env = pure [(ofString "mycmp",a)])
  (hmy : env.kindOf (ofString "mycmp") = some .cell) (hρ : ρ.lookup (ofString "mycmp") = some (.val mycmp)) {Q : Flow -> Shared -> Prop}
  (k : ∀ s',Ext (Cx.mk w hb [184] [184] A env).V s0 s' -> ∀ C N cell,Sta (Cx.mk w hb [184] [184] A env) tabI2 ((ofString "K",.val (.ref C)) :: ρ) s' -> s'.heap.IsCell cell (some mycmp) -> KClsN w s'.heap C N cell pI pL bI bL sI sL -> s0.heap.get? N = none ->
   wpAny (model PR w) A (execs rest env) Q NoE s') :
  JP (Cx.mk w hb [184] [184] A env) (Sto (Cx.mk w hb [184] [184] A env) tabI s0 ρ) (.ClassDef (ofString "K") [.Name (ofString "object") opos] [] body [] [] ksc ts (ofString "K") [ofString "obj"] kpos :: rest) Q := by
 intro s S
 refine wpAny_execs_cons ?_
 rw [arm_exec_ClassDef]
 obtain ⟨p,loose,mg,mb,T⟩ := ok.gr.T
 have OB : JE (Cx.mk w hb [184] [184] A env) tabI ρ (.Name (ofString "object") opos) (.val (.type "object")) := JE.bltn ok (show nsIn (hd.heap_1 w.params) mainGlobals (ofString "object") = some none by k_is) boot_object (by decide) (by rw [henv];exact hO)
 have bi : env.builtins = builtinsNs := ok.env.bi
 have Fb := S.sta.stays
 have mbk : mb (ofString "__build_class__") = some (.builtin "__build_class__") := (T.builtins _ (by decide)).trans boot_bc
 obtain ⟨hh,g,d,t,os⟩ := s
 refine wpAny_bind (wpAny_pure (wpAny_bind (wpAny_standAt ?_)))
 refine wpAny_bind ?_
 unfold buildClassGuard
 refine wpAny_bind (nsGetN (by rw [bi];exact T.b.keeps Fb.1) mbk ?_)
 refine wpAny_pure (wpAny_bind (wpAny_holding ?_))
 refine wpAny_bind (evalArgs_pos (spliced_cons (fin (OB _ S.sta) fun v s1 q => spliced_nil ?_)))
 obtain ⟨e1,r1⟩ := q
 unfold Rel at r1
 subst r1
 have S1 := S.ext0 e1
 have Fb1 := S1.sta.stays
 obtain ⟨hh1,g1,d1,t1,os1⟩ := s1
 refine wpAny_bind (wpAny_standAt (wpAny_holding ?_))
 have X1 : (hd.heap_1 w.params).In hh1 := fun a o e => Fb1.1 a o (ok.gr.X a o e)
 have hqn : qualnameIn env (ofString "K") (ofString "K") = kQual := by rw [henv];unfold qualnameIn;rw [if_neg (by show ¬ (scope.names.lookup (ofString "K") == some NameKind.globalExplicit) = true;rw [hK];decide)];kernel_rfl
 rw [hqn]
 show wpAny _ _ (buildClass (ofString "K") kQual [.type "object"] [] body ksc [ofString "obj"] kpos.line env kpos none) _ _ _
 rw [hl]
 obtain ⟨m,F,hv⟩ := S1.sta.loc.fr
 rcases hv _ _ hρ with ⟨q,_⟩ | ⟨_,cell,v,hc1,hc2,hc3⟩
 ·rw [hmy] at q;cases q
 unfold Rel at hc3
 have hvm : v = mycmp := hc3
 rw [hvm] at hc2
 have CT1 : CT hh1 188 184 #[] := ⟨codeHd_of_K X1 (hcd188 _),S1.sta.asr,trivial⟩
 refine build_K SB KS ok.gr (by rw [henv];rfl) CT1 (by kernel_rfl) ok.env.gl bi (hcl _ hc1) Fb1.1 Fb1.2 (ok.wh 184 (by simp)) (by have : A.depth + n ≤ 600 := ok.room.dp;simp only [recursionLimit];omega) ?_
 intro h' t' C N kk htab fC fN hK'
 have e2 : Ext [184] ⟨hh1,g1,d1,t1,os1⟩ ⟨h',g1,d1,t',os1⟩ := ⟨fun b o nb e => kk b o (fun q => nb (q ▸ List.mem_singleton.mpr rfl)) e,rfl,fun x => x⟩
 obtain ⟨ps',hp',tp'⟩ := htab
 have S2 : Sta (Cx.mk w hb [184] [184] A env) tabI2 ρ ⟨h',g1,d1,t',os1⟩ := S1.sta.upd ok e2 (fun b q => q) (fun b q => by rw [List.mem_singleton.mp q];exact ⟨_,hp'⟩) ⟨ps',hp',tp'⟩
 refine wpAny_bind (wpAny_pure (wpAny_bind (wpAny_standAt ?_)))
 unfold bindName
 refine wpAny_bind (wpAny_bind (wpAny_holding (wpAny_point (wpAny_bind (fin (store_var (c := Cx.mk w hb [184] [184] A env) (x := ofString "K") (d := .val (.ref C)) ok (.inl (by rw [henv];exact hK)) S2 (by unfold Rel;rfl)) fun _ s3 z => ?_)))))
 obtain ⟨z1,z2⟩ := z
 refine wpAny_point (wpAny_pure ?_)
 have e3 : Ext (Cx.mk w hb [184] [184] A env).V s0 s3 := (S1.ext.trans (e2.mono fun b q => List.mem_append_left _ q)).trans (z1.mono fv_sub)
 have kp : ∀ b o,(∀ es n,o.data ≠ .dict es n) -> (∀ v,o.data ≠ .cell v) -> h'.get? b = some o -> s3.heap.get? b = some o := fun b o n1 n2 e => z1.keep b o (fun q => ?_) e
 ·refine k s3 e3 C N cell z2 ?_ (hK'.move kp fun o e => z1.keep N o (fun q => ?_) e) ?_
  ·have hl2 : List.lookup (ofString "mycmp") ((ofString "K",D.val (.ref C)) :: ρ) = some (.val mycmp) := by rw [List.lookup_cons];exact hρ
   obtain ⟨m2,F2,hv2⟩ := z2.loc.fr
   rcases hv2 _ _ hl2 with ⟨q,_⟩ | ⟨_,c2,v,hc1',hc2',hc3'⟩
   ·rw [hmy] at q;cases q
   unfold Rel at hc3'
   have hvm2 : v = mycmp := hc3'
   rw [hvm2] at hc2'
   rw [hc1] at hc1'
   cases hc1'
   exact hc2'
  ·obtain ⟨o,eo⟩ := S1.sta.loc.live N q
   rw [fN] at eo;cases eo
  ·cases e : s0.heap.get? N with
   | none => rfl
   | some o =>
    exfalso
    have nV : N ∉ (Cx.mk w hb [184] [184] A env).V := fun q => by
     rcases List.mem_append.mp q with q | q
     ·have q' : N = 184 := List.mem_singleton.mp q
      have : hh1.get? 184 = some (tabObj #[]) := S1.sta.asr
      rw [← q',fN] at this;cases this
     ·obtain ⟨o,eo⟩ := S1.sta.loc.live N q
      rw [fN] at eo;cases eo
    have := S1.ext.keep N o nV e
    rw [fN] at this;cases this
 ·rcases List.mem_cons.mp q with q | q
  ·obtain ⟨m2,F2,_⟩ := S2.loc.fr
   obtain ⟨o',es,ep,eo,dd,_⟩ := F2.ns
   rw [q] at e
   rw [e] at eo;cases eo
   exact n1 _ _ dd
  ·obtain ⟨⟨x,a⟩,hm,rfl⟩ := List.mem_map.mp q
   obtain ⟨v,o',eo,dd⟩ := (S2.loc.cl x a hm).1
   rw [e] at eo;cases eo
   exact n2 _ dd
theorem hcd189 (P : Params) : codeIn (hd.heap_1 P) (.ref 188) (ofString "cmp_to_key") = true := by kernel_rfl
theorem spec_cmp {w : World} {hb : Heap} {A : Around} {s : Shared} {body : List Stmt} {ksc scope : Scope} {ts : Option Scope} {pI pL params : Arguments} {bI bL : List Stmt} {sI sL : Scope} {kpos opos rp rq : Pos} {mycmp pm : Value}
  (SB : SpecBody body ksc pI pL bI bL sI sL) (KS : KSc ksc body)
  (ho : ∀ P,(hd.heap_1 P).lookup 189 = some ⟨.type "function",none,.func (fnOf (ofString "cmp_to_key") (ofString "cmp_to_key") params [.ClassDef (ofString "K") [.Name (ofString "object") opos] [] body [] [] ksc ts (ofString "K") [ofString "obj"] kpos,.Return (some (.Name (ofString "K") rp)) rq] scope .none .none .none pm none (.ref 188) .none),#[]⟩)
  (hK : scope.names.lookup (ofString "K") = some .local) (hO : scope.names.lookup (ofString "object") = some .globalImplicit) (hM : scope.names.lookup (ofString "mycmp") = some .cell) (hl : kpos.line = 112)
  (hcl : ∀ L a,(envOfC (ofString "cmp_to_key") scope L 189 (.ref 188)).cells.lookup (ofString "mycmp") = some a -> closureFor ksc (envOfC (ofString "cmp_to_key") scope L 189 (.ref 188)) = pure [(ofString "mycmp",a)])
  (hbind : ∀ v,bindArgs (fnOf (ofString "cmp_to_key") (ofString "cmp_to_key") params [.ClassDef (ofString "K") [.Name (ofString "object") opos] [] body [] [] ksc ts (ofString "K") [ofString "obj"] kpos,.Return (some (.Name (ofString "K") rp)) rq] scope .none .none .none pm none (.ref 188) .none) ⟨[v],[]⟩ = pure [(ofString "mycmp",v)])
  (hnd : ((cellsFrom 0 scope.names []).map (·.1)).Nodup) (hco : scope.isCoroutine = false) (hgen : scope.isGenerator = false) (hk : scope.kind = .function)
  (g : Gr w hb) (h184 : hb.get? 184 = none) (room : Room A 6) (hst : hb.StaysIn s.heap) (hsz : hb.objs.size ≤ s.heap.objs.size) (htab : s.heap.get? 184 = some (tabObj #[])) :
  wpAny (model PR w) A (call (.ref 189) [mycmp]) (fun v s' => Ext [184] s s' ∧ KOut w s.heap pI pL bI bL sI sL mycmp v s') NoE s := by
 refine spec_enterR (m := 5) (W := [184]) (U := [184]) (I := tabI) (ρ := [(ofString "mycmp",.val mycmp)]) ⟨g,fun b q => by rw [List.mem_singleton.mp q];exact h184,fun b q => q⟩ room hst hsz (fun b q => by rw [List.mem_singleton.mp q];exact ⟨_,htab⟩) htab (ho _) (hcd189 _) (hbind mycmp) ?_ ?_ hnd ?_ hco hgen hk
 ·exact ⟨rfl,by unfold Rel;rfl,trivial⟩
 ·rw [List.all_cons,List.all_nil,hM];rfl
 intro A' env s0 L henv _ hup ok
 refine class_K SB KS henv ok hK hO hl (fun a e => by rw [henv] at e ⊢;exact hcl L a e) (by rw [henv];exact hM) rfl fun s' e1 C N cell S1 hcell hKN hfr => ?_
 refine wpAny_execs_cons (wpAny_Return_some (fin ((JE.var ok (d := .val (.ref C)) rfl : JE (Cx.mk w hb [184] [184] A' env) tabI2 [(ofString "K",D.val (Value.ref C)),(ofString "mycmp",D.val mycmp)] (.Name (ofString "K") rp) (.val (.ref C))) s' S1) fun v s2 q => ?_))
 obtain ⟨e2,r2⟩ := q
 unfold Rel at r2
 subst r2
 obtain ⟨ps,hp,tp⟩ := S1.asr
 exact ⟨_,.inl rfl,e1.trans e2.nil,C,N,cell,rfl,⟨ps,e2.all _ _ hp,tp⟩,hcell.keeps e2.all,hKN.move (fun b o _ _ e => e2.all b o e) (fun o e => e2.all _ o e),by
  cases e : s.heap.get? N with
  | none => rfl
  | some o => have := hup _ _ e;rw [hfr] at this;cases this⟩
section
theorem mem_lk {K : Frag} {a : Addr} {o : Obj} : K.lookup a = some o -> (a,o) ∈ K := by
 induction K with
 | nil => intro e;cases e
 | cons p r ih =>
  intro e
  rw [List.lookup_cons] at e
  split at e
  ·rename_i q
   cases e
   rw [beq_iff_eq.mp q]
   exact List.mem_cons_self ..
  ·exact List.mem_cons_of_mem _ (ih e)
theorem frag_in {K : Frag} {h : Heap} (X : ∀ p ∈ K,h.get? p.1 = some p.2) : K.In h := fun a o e => X (a,o) (mem_lk e)
theorem frag_look {K : Frag} {h : Heap} (X : ∀ p ∈ K,h.get? p.1 = some p.2) {a : Addr} {o : Obj} (hm : (a,o) ∈ K) : K.lookup a = some o := by
 cases e : K.lookup a with
 | none =>
  exfalso
  have : ∀ (K : Frag),K.lookup a = none -> (a,o) ∉ K := by
   intro K
   induction K with
   | nil => intro _ q;cases q
   | cons p r ih =>
    intro e q
    rw [List.lookup_cons] at e
    rcases List.mem_cons.mp q with q | q
    ·rw [← q] at e;simp at e
    ·split at e
     ·cases e
     ·exact ih e q
  exact this K e hm
 | some o' =>
  have h1 := X _ (mem_lk e)
  have h2 := X _ hm
  dsimp only at h1 h2
  rw [h1] at h2;exact h2
structure KFr (w : World) (K : Frag) (C N mem fI fL cell : Addr) (P' : Addr) (pI pL : Arguments) (bI bL : List Stmt) (sI sL : Scope) : Prop where
 nd : ∀ p ∈ K,p.1 = N ∨ ∀ es n,p.2.data ≠ .dict es n
 cls : ∃ T tn tq,K.lookup C = some (clsK T N C tn tq kQual)
 ns : ∃ l t1 t2 n,K.lookup N = some (dictOf (ents w.params (lK l mem t1 t2)) n) ∧ getT (ofString "__init__") l = some (.ref fI) ∧ getT (ofString "__lt__") l = some (.ref fL) ∧
  (∀ x ∈ [ofString "__setattr__",ofString "__getattribute__",ofString "__getattr__",ofString "__call__",ofString "__dict__",ofString "__class__",ofString "__new__"],getT x l = none)
 mm : ∃ t,K.lookup mem = some (memObj C t)
 oI : ∃ doc pm cd ctv,K.lookup fI = some (fnMade (ofString "__init__") (kQual ++ ofString "." ++ ofString "__init__") pI bI sI [] doc pm cd ctv)
 oL : ∃ doc pm cd ctv,K.lookup fL = some (fnMade (ofString "__lt__") (kQual ++ ofString "." ++ ofString "__lt__") pL bL sL [(ofString "mycmp",cell)] doc pm cd ctv)
theorem kfr_of {w : World} {h : Heap} {C N cell : Addr} {pI pL : Arguments} {bI bL : List Stmt} {sI sL : Scope} (x : KClsN w h C N cell pI pL bI bL sI sL) :
  ∃ K mem fI fL P',(∀ p ∈ K,h.get? p.1 = some p.2) ∧ KFr w K C N mem fI fL cell P' pI pL bI bL sI sL ∧ FnK h P' fI (ofString "__init__") (kQual ++ ofString "." ++ ofString "__init__") pI bI sI [] ∧ FnK h P' fL (ofString "__lt__") (kQual ++ ofString "." ++ ofString "__lt__") pL bL sL [(ofString "mycmp",cell)] := by
 revert w h C N cell pI pL bI bL sI sL;intros w h C N cell pI pL bI bL sI sL x
 obtain @⟨T,mem,l,t1,t2,t3,tn,tq,n,fI,fL,P',e1,e2,e3,e4,e5,e6,e7,e8⟩ := x
 obtain @⟨doc,pm,cd,ctv,e,_⟩ := id e7
 obtain @⟨doc',pm',cd',ctv',e',_⟩ := id e8
 have X : ∀ p ∈ [(C,clsK T N C tn tq kQual),(N,dictOf (ents w.params (lK l mem t1 t2)) n),(mem,memObj C t3),(fI,fnMade (ofString "__init__") (kQual ++ ofString "." ++ ofString "__init__") pI bI sI [] doc pm cd ctv),
   (fL,fnMade (ofString "__lt__") (kQual ++ ofString "." ++ ofString "__lt__") pL bL sL [(ofString "mycmp",cell)] doc' pm' cd' ctv')],h.get? p.1 = some p.2 := by
  intros p hp
  simp only [List.mem_cons,List.not_mem_nil,or_false] at hp
  rcases hp with rfl | rfl | rfl | rfl | rfl
  ·exact e1
  ·exact e2
  ·exact e3
  ·exact e
  ·exact e'
 have ND : ∀ p ∈ [(C,clsK T N C tn tq kQual),(N,dictOf (ents w.params (lK l mem t1 t2)) n),(mem,memObj C t3),(fI,fnMade (ofString "__init__") (kQual ++ ofString "." ++ ofString "__init__") pI bI sI [] doc pm cd ctv),
   (fL,fnMade (ofString "__lt__") (kQual ++ ofString "." ++ ofString "__lt__") pL bL sL [(ofString "mycmp",cell)] doc' pm' cd' ctv')],p.1 = N ∨ ∀ es n,p.2.data ≠ .dict es n := by
  intros p hp
  simp only [List.mem_cons,List.not_mem_nil,or_false] at hp
  rcases hp with rfl | rfl | rfl | rfl | rfl
  ·exact .inr fun _ _ q => by cases q
  ·exact .inl rfl
  ·exact .inr fun _ _ q => by cases q
  ·exact .inr fun _ _ q => by cases q
  ·exact .inr fun _ _ q => by cases q
 exact ⟨_,mem,fI,fL,P',X,⟨ND,⟨_,_,_,frag_look X (.head _)⟩,⟨l,_,_,_,frag_look X (.tail _ (.head _)),e4,e5,e6⟩,⟨_,frag_look X (.tail _ (.tail _ (.head _)))⟩,⟨_,_,_,_,frag_look X (.tail _ (.tail _ (.tail _ (.head _))))⟩,⟨_,_,_,_,frag_look X (.tail _ (.tail _ (.tail _ (.tail _ (.head _)))))⟩⟩,e7,e8⟩
section
variable {w : World} {K : Frag} {C N mem fI fL cell P' : Addr} {pI pL : Arguments} {bI bL : List Stmt} {sI sL : Scope}
theorem getT_lK {x : Str} {l : List DE} {mem : Addr} {t1 t2 : Tok} (h1 : x ≠ ofString "__qualname__") (h2 : x ≠ ofString "obj") (h3 : x ≠ ofString "__doc__") : getT x (lK l mem t1 t2) = getT x l := by
 unfold lK
 rw [getT_put_other h3,getT_put_other h2,getT_del_other h1]
theorem KFr.find (f : KFr w K C N mem fI fL cell P' pI pL bI bL sI sL) {x : Str} : ∃ l t1 t2,findIn K (.ref C) x = (match getT x (lK l mem t1 t2) with | some v => some (some v) | none => (match fastBuiltinOwn "object" x with | some v => some (some v) | none => some none)) ∧
  getT (ofString "__init__") l = some (.ref fI) ∧ getT (ofString "__lt__") l = some (.ref fL) ∧
  (∀ x ∈ [ofString "__setattr__",ofString "__getattribute__",ofString "__getattr__",ofString "__call__",ofString "__dict__",ofString "__class__",ofString "__new__"],getT x l = none) := by
 revert w K C N mem fI fL cell P' pI pL bI bL sI sL x;intros w K C N mem fI fL cell P' pI pL bI bL sI sL f x
 obtain @⟨T,tn,tq,hc⟩ := f.cls
 obtain @⟨l,t1,t2,n,hn,e1,e2,e3⟩ := f.ns
 refine ⟨l,t1,t2,?_,e1,e2,e3⟩
 have nsx : nsIn K N x = some (getT x (lK l mem t1 t2)) := by
  unfold nsIn
  rw [hn]
  exact ents_get w.params x (lK l mem t1 t2)
 have own : ownIn K x (.ref C) = some (getT x (lK l mem t1 t2)) := by
  show (match K.lookup C with | some ⟨_,_,.cls cd,_⟩ => nsIn K cd.ns x | _ => none) = _
  rw [hc]
  exact nsx
 show (match K.lookup C with | some ⟨_,_,.cls cd,_⟩ => alongIn K x cd.mro | _ => none) = _
 rw [hc]
 show alongIn K x [.ref C,.type "object"] = _
 unfold alongIn
 rw [own]
 cases getT x (lK l mem t1 t2) with
 | some v => rfl
 | none =>
  show alongIn K x [.type "object"] = _
  unfold alongIn
  rw [show ownIn K x (.type "object") = some (fastBuiltinOwn "object" x) from rfl]
  cases fastBuiltinOwn "object" x with
  | some v => rfl
  | none => rfl
theorem KFr.init (f : KFr w K C N mem fI fL cell P' pI pL bI bL sI sL) : findIn K (.ref C) (ofString "__init__") = some (some (.ref fI)) := by
 obtain ⟨l,t1,t2,e,e1,e2,e3⟩ := f.find (x := ofString "__init__")
 rw [e,getT_lK (by decide) (by decide) (by decide),e1]
theorem KFr.lt (f : KFr w K C N mem fI fL cell P' pI pL bI bL sI sL) : findIn K (.ref C) (ofString "__lt__") = some (some (.ref fL)) := by
 obtain ⟨l,t1,t2,e,e1,e2,e3⟩ := f.find (x := ofString "__lt__")
 rw [e,getT_lK (by decide) (by decide) (by decide),e2]
theorem KFr.obj (f : KFr w K C N mem fI fL cell P' pI pL bI bL sI sL) : findIn K (.ref C) (ofString "obj") = some (some (.ref mem)) := by
 obtain ⟨l,t1,t2,e,e1,e2,e3⟩ := f.find (x := ofString "obj")
 rw [e]
 unfold lK
 rw [getT_put_other (by decide),getT_put_self]
theorem KFr.sa (f : KFr w K C N mem fI fL cell P' pI pL bI bL sI sL) : findIn K (.ref C) (ofString "__setattr__") = some (some (.builtin "object.__setattr__")) := by
 obtain ⟨l,t1,t2,e,e1,e2,e3⟩ := f.find (x := ofString "__setattr__")
 rw [e,getT_lK (by decide) (by decide) (by decide),e3 _ (by simp)]
 rw [show fastBuiltinOwn "object" (ofString "__setattr__") = some (.builtin "object.__setattr__") by kernel_rfl]
theorem KFr.ga (f : KFr w K C N mem fI fL cell P' pI pL bI bL sI sL) : findIn K (.ref C) (ofString "__getattribute__") = some (some (.builtin "object.__getattribute__")) := by
 obtain ⟨l,t1,t2,e,e1,e2,e3⟩ := f.find (x := ofString "__getattribute__")
 rw [e,getT_lK (by decide) (by decide) (by decide),e3 _ (by simp)]
 rw [show fastBuiltinOwn "object" (ofString "__getattribute__") = some (.builtin "object.__getattribute__") by kernel_rfl]
theorem KFr.gx (f : KFr w K C N mem fI fL cell P' pI pL bI bL sI sL) : findIn K (.ref C) (ofString "__getattr__") = some none := by
 obtain ⟨l,t1,t2,e,e1,e2,e3⟩ := f.find (x := ofString "__getattr__")
 rw [e,getT_lK (by decide) (by decide) (by decide),e3 _ (by simp)]
 rw [show fastBuiltinOwn "object" (ofString "__getattr__") = none by kernel_rfl]
theorem KFr.cd (f : KFr w K C N mem fI fL cell P' pI pL bI bL sI sL) : clsIn K C = some (cd2 N C kQual) := by
 obtain ⟨T,tn,tq,hc⟩ := f.cls
 unfold clsIn
 rw [hc];rfl
theorem KFr.isI (f : KFr w K C N mem fI fL cell P' pI pL bI bL sI sL) : typeIn K (.ref fI) = some (.type "function") := by
 obtain ⟨_,_,_,_,e⟩ := f.oI
 show (K.lookup fI).map (·.cls) = _
 rw [e];rfl
theorem KFr.isL (f : KFr w K C N mem fI fL cell P' pI pL bI bL sI sL) : typeIn K (.ref fL) = some (.type "function") := by
 obtain ⟨_,_,_,_,e⟩ := f.oL
 show (K.lookup fL).map (·.cls) = _
 rw [e];rfl
theorem KFr.isM (f : KFr w K C N mem fI fL cell P' pI pL bI bL sI sL) : typeIn K (.ref mem) = some (.type "member_descriptor") := by
 obtain ⟨_,e⟩ := f.mm
 show (K.lookup mem).map (·.cls) = _
 rw [e];rfl
theorem KFr.tk (f : KFr w K C N mem fI fL cell P' pI pL bI bL sI sL) : takerIn K C (ofString "obj") = some (some (.ref mem)) := by
 unfold takerIn
 rw [f.obj,Option.bind_some]
 have : takesIn K (.ref mem) = some true := by
  have e : specialIn K (.ref mem) "__set__" = some (some (.builtin "member_descriptor.__set__")) := by
   unfold specialIn
   rw [f.isM,Option.bind_some]
   show fastLookup "member_descriptor" _ = _
   kernel_rfl
  unfold takesIn
  rw [e]
 show (takesIn K (.ref mem)).map _ = _
 rw [this];rfl
theorem KFr.po (f : KFr w K C N mem fI fL cell P' pI pL bI bL sI sL) : plainOver K C = true := by
 unfold plainOver
 rw [f.cd];rfl
theorem KFr.slot (f : KFr w K C N mem fI fL cell P' pI pL bI bL sI sL) : slotIn K mem C = some 0 := by
 obtain ⟨t,e⟩ := f.mm
 have : recIn K mem "member_descriptor" = some [.str (ofString "obj") t,.ref C,.builtin "proto.slot",.builtin "proto.slot#set",rawInt 0] := by
  unfold recIn
  rw [e];rfl
 unfold slotIn
 rw [this,f.cd]
 have h : (cd2 N C kQual).mro.contains (.ref C) = true := by simp
 show (if _ then _ else _) = _
 rw [if_pos]
 ·rfl
 ·rw [h];rfl
theorem KFr.makes (f : KFr w K C N mem fI fL cell P' pI pL bI bL sI sL) : makesIn K C = true := by
 obtain ⟨T,tn,tq,hc⟩ := f.cls
 have t1 : specialIn K (.ref C) "__call__" = some (some (.builtin "type.__call__")) := by
  unfold specialIn
  rw [show typeIn K (.ref C) = some (.type "type") by show (K.lookup C).map (·.cls) = _;rw [hc];rfl,Option.bind_some]
  show fastLookup "type" _ = _
  kernel_rfl
 have t2 : instIn K (.ref C) (.type "type") = some true := by
  unfold instIn
  rw [show typeIn K (.ref C) = some (.type "type") by show (K.lookup C).map (·.cls) = _;rw [hc];rfl,Option.bind_some]
  kernel_rfl
 unfold makesIn
 rw [hc]
 have h : (cd2 N C kQual).mro.contains (.ref C) = true := by simp
 have h2 : (cd2 N C kQual).mro.contains (.type "object") = true := by simp
 show (_ && (cd2 N C kQual).mro.contains (.ref C) && (cd2 N C kQual).mro.contains (.type "object") && (specialIn K (.ref C) "__call__" == _) && (instIn K (.ref C) (.type "type") == _)) = true
 rw [h,h2,t1,t2]
 rfl
end
end
theorem spec_imode (bits : Int) : Spec 1 205 [.int bits] (.int (Builtin.bitAnd bits 4095)) := fun w hb W A s vs g room hst hsz hW hR => by
 refine rels1 hR ?_;clear hR;intro v1 r1
 refine' spec_enter (ρ := [(ofString "mode",.int bits)]) (binds := [(ofString "mode",v1)]) g room hst hsz hW ?ho ?hcd ?hbind ⟨rfl,r1,trivial⟩ ?hkind ?hnd ?h ?hco ?hgen ?hk
 case ho => k_is
 case hcd => k_is
 case hbind => rfl
 case hkind => rfl
 case hnd => decide
 case hco => rfl
 case hgen => rfl
 case hk => rfl
 intro c s0 L hE hU ok
 refine' JS.ret ?h1 ?h2
 case h1 => exact JE.bin ok (JE.var ok rfl) JE.cint BinR.and
 case h2 => exact fun v s S r => RQ.ret S r
theorem spec_ifmt (bits : Int) : Spec 1 212 [.int bits] (.int (Builtin.bitAnd bits 61440)) := fun w hb W A s vs g room hst hsz hW hR => by
 refine rels1 hR ?_;clear hR;intro v1 r1
 refine' spec_enter (ρ := [(ofString "mode",.int bits)]) (binds := [(ofString "mode",v1)]) g room hst hsz hW ?ho ?hcd ?hbind ⟨rfl,r1,trivial⟩ ?hkind ?hnd ?h ?hco ?hgen ?hk
 case ho => k_is
 case hcd => k_is
 case hbind => rfl
 case hkind => rfl
 case hnd => decide
 case hco => rfl
 case hgen => rfl
 case hk => rfl
 intro c s0 L hE hU ok
 refine' JS.ret ?h1 ?h2
 case h1 => exact JE.bin ok (JE.var ok rfl) JE.cint BinR.and
 case h2 => exact fun v s S r => RQ.ret S r
theorem spec_bykind (one other : Int) : Spec 2 278 [.int one,.int other] (.int (Builtin.bitAnd one 61440 - Builtin.bitAnd other 61440)) := fun w hb W A s vs g room hst hsz hW hR => by
 refine rels2 hR ?_;clear hR;intro v1 v2 r1 r2
 refine' spec_enter (ρ := [(ofString "other",.int other),(ofString "one",.int one)]) (binds := [(ofString "one",v1),(ofString "other",v2)]) g room hst hsz hW ?ho ?hcd ?hbind ⟨rfl,r2,rfl,r1,trivial⟩ ?hkind ?hnd ?h ?hco ?hgen ?hk
 case ho => k_is
 case hcd => k_is
 case hbind => rfl
 case hkind => rfl
 case hnd => decide
 case hco => rfl
 case hgen => rfl
 case hk => rfl
 intro c s0 L hE hU ok
 refine' JS.ret ?h1 ?h2
 case h1 => exact JE.bin ok (JE.call ok (by decide) (JE.glob ok (by k_is) (kd hE rfl)) (by k_is) (JEs.cons (JE.var ok rfl) JEs.nil) (spec_ifmt _)) (JE.call ok (by decide) (JE.glob ok (by k_is) (kd hE rfl)) (by k_is) (JEs.cons (JE.var ok rfl) JEs.nil) (spec_ifmt _)) BinR.sub
 case h2 => exact fun v s S r => RQ.ret S r
section
open PySem PySem.W PyProof.Rows PySem.Calls Builtin Builtin.ObjectAttr Builtin.Getset_descriptor
section
variable {w : World} {A : Around} {s : Shared} {K : Frag} {C N mem fI fL cell P' : Addr} {pI pL : Arguments} {bI bL : List Stmt} {sI sL : Scope}
theorem slot_setM {ox : Obj} {od : Option Obj} {v : Value} {p i x : Addr} {R : Result -> Shared -> Prop} (X : K.In s.heap) (I : InstAt s.heap x ox C od) (hp : slotIn K p C = some i) (hi : i < 100) (hf : ox.isFreed = false)
  (h : ∀ h',Heap.SameBut x s.heap h' -> h'.get? x = some { ox with slots := (ox.slots ++ Array.replicate (i + 1 - ox.slots.size) none).setIfInBounds i (some v) } -> R (.ok (.ret .none)) { s with heap := h' }) :
  codeAny (model PR w) A (.call (.builtin "member_descriptor.__set__") ⟨[.ref p,.ref x,v],[]⟩) R s := by
 revert w A s K C ox od v p i x R;intros w A s K C ox od v p i x R X I hp hi hf h
 obtain @⟨n,tn,owner,behind,tb,d,sl,cd,ho,hc,hm,hb,rfl⟩ := slot_of X hp
 obtain @⟨hh,g,dr,t,os⟩ := s
 have L0 := I.type (M := model PR w)
 have L1 := looks_mroIn (M := model PR w) X hm
 have L2 : Looks (model PR w) hh (Builtin.Slots.slotNamesOf (.ref C)) cd.slotNames := (looks_clsIn X hc).andThen .now
 have hx := I.at_
 dsimp only at ho hx L0 L1
 have f0 := looks_field (M := model PR w) ho 0 (v := .str n tn) rfl
 have f1 := looks_field (M := model PR w) ho 1 (v := owner) rfl
 have f3 := looks_field (M := model PR w) ho 3 (v := .builtin "proto.slot#set") rfl
 have f4 := looks_field (M := model PR w) ho 4 (v := .int behind tb) rfl
 refine codeAny_call_builtin KF.slot_mset.plain KF.entry_mset (KF.slot_mset.check _ _ _ _ _ _ _ _ ⟨_,ho,rfl⟩ (KF.args_mset _ _ _) ?_)
 unfold Builtin.«member_descriptor.__set__» descrSet descrStoreThrough descrCheckInstance descrNameAndClass isInstance
 have f5 : Looks (model PR w) hh (descrItself (.ref p)) [.ref p] := ((Looks.ld (part := none) ho).andThen .now).andThen (Looks.of_pure (by kernel_rfl))
 repeat lk
 refine ⟨Code.quiet_builtin _ (by decide +kernel),codeAny_builtin KF.entry_slotset ?_⟩
 unfold Builtin.«proto.slot#set» Builtin.Slots.target
 repeat lk
 rw [if_neg hb]
 refine wpAny_pure (wpAny_bind ?_)
 exact setSlotD hx hi hf fun h' sb e => wpAny_pure (h h' sb e)
structure KInst (h : Heap) (C x dx : Addr) (sl : Array (Option Value)) : Prop where
 at_ : h.get? x = some { instObj C dx with slots := sl }
 dd : h.get? dx = some emptyDict
theorem KInst.inst {h : Heap} {C x dx : Addr} {sl : Array (Option Value)} (i : KInst h C x dx sl) : InstAt h x { instObj C dx with slots := sl } C (some emptyDict) := ⟨i.at_,rfl,rfl,i.dd⟩
theorem set_obj {x dx : Addr} {v : Value} {Q : Unit -> Shared -> Prop} (X : K.In s.heap) (f : KFr w K C N mem fI fL cell P' pI pL bI bL sI sL) (i : KInst s.heap C x dx #[])
  (h : ∀ h' tk,Heap.SameBut x s.heap h' -> h'.get? x = some { instObj C dx with slots := #[some v] } -> Q () { s with heap := h',toks := tk }) : wpAny (model PR w) A (setAttr (.ref x) (ofString "obj") v) Q NoE s := by
 refine set_plain X i.inst f.sa ?_
 refine osa_descr KF.slot_mset X i.inst f.po f.tk f.isM ?_
 refine slot_setM X i.inst f.slot (by decide) rfl fun h' sb e => ?_
 exact h h' _ sb e
theorem get_obj {x dx : Addr} {v : Value} {b : Bool} {Q : Value -> Shared -> Prop} (X : K.In s.heap) (f : KFr w K C N mem fI fL cell P' pI pL bI bL sI sL) (i : KInst s.heap C x dx #[some v]) (hv : handedIn v = true)
  (h : Q v { s with toks := s.toks + 1 }) : wpAny (model PR w) A (getAttr (.ref x) (ofString "obj") b) Q NoE s := by
 have sg : specialIn K (.ref mem) "__get__" = some (some (.builtin "member_descriptor.__get__")) := by
  unfold specialIn
  rw [f.isM,Option.bind_some]
  show fastLookup "member_descriptor" _ = _
  kernel_rfl
 have tk : takesIn K (.ref mem) = some true := by
  have := f.tk
  unfold takerIn at this
  rw [f.obj,Option.bind_some] at this
  cases q : takesIn K (.ref mem) with
  | none =>
   have this' : (takesIn K (.ref mem)).map (fun b => if b then some (Value.ref mem) else none) = some (some (.ref mem)) := this
   rw [q] at this';cases this'
  | some b =>
   have this' : (takesIn K (.ref mem)).map (fun b => if b then some (Value.ref mem) else none) = some (some (.ref mem)) := this
   rw [q] at this'
   cases b with
   | true => rfl
   | false => cases this'
 refine get_bind X i.inst f.ga (findObj_data (by rw [f.cd];rfl) f.obj sg tk) f.gx ?_
 refine wpAny_call (slot_get (s := { s with toks := s.toks + 1 }) X i.inst f.slot rfl ?_)
 show wpAny _ _ (handedOut v) _ _ _
 rw [handedOut_of hv]
 exact wpAny_pure h
end
theorem enterFn {w : World} {hb : Heap} {A : Around} {s : Shared} {f P' : Addr} {name qual : Str} {params : Arguments} {body : List Stmt} {scope : Scope} {clos : List (Str × Addr)} {vs : List Value} {binds : List (Str × Value)} {R : Result -> Shared -> Prop} {m : Nat}
  (g : Gr w hb) (hst : hb.StaysIn s.heap) (room : Room A (m + 1)) (x : FnK s.heap P' f name qual params body scope clos)
  (hbind : ∀ doc pm cd ctv,bindArgs (fnX name qual params body scope clos .none .none doc pm none (.ref cd) ctv) ⟨vs,[]⟩ = pure binds) (hcell : ∀ x ∈ scope.names,x.2 ≠ .cell) (hloc : ∀ x ∈ binds,scope.names.lookup x.1 = some .local)
  (k : ∀ (A' : Around) (env : Env) (h0 : Heap) (cd t : Nat),env = envX qual scope s.heap.objs.size f (.ref cd) clos -> Room A' m -> h0.Ns s.heap.objs.size (fun x => binds.reverse.lookup x) -> (∀ b o,s.heap.get? b = some o -> h0.get? b = some o) ->
   wpAny (model PR w) A' (execs body env) (fun fl s' => R (.ok (.ret (match fl with | .ret v => v | _ => .none))) s') NoE { s with heap := h0,toks := t })
  (hco : scope.isCoroutine = false) (hgen : scope.isGenerator = false) (hk : scope.kind = .function) : codeAny (model PR w) A (.call (.ref f) ⟨vs,[]⟩) R s := by
 obtain ⟨p,loose,mg,mb,T⟩ := g.T
 obtain ⟨doc,pm,cd,ctv,e,hcP,hrec⟩ := x
 refine codeAny_call_def (fd := fnX name qual params body scope clos .none .none doc pm none (.ref cd) ctv) (body := body) (binds := binds) (by have := room.dp;simp only [recursionLimit];omega) e rfl (T.nolimit.keeps hst) hrec rfl (BindsTo.of_eq (hbind _ _ _ _)) hcell hloc (fun h0 hns hkp => ?_) hco hgen hk
 have henv : callEnv (fnX name qual params body scope clos .none .none doc pm none (.ref cd) ctv) s.heap.objs.size f = envX qual scope s.heap.objs.size f (.ref cd) clos := rfl
 rw [henv]
 refine wpAny_mono (k _ _ h0 cd _ rfl ⟨room.hh,?_,?_⟩ hns hkp) (fun _ _ z => z) fun _ _ z => z.elim
 ·have := room.dp;simp only [Around.deeper];omega
 ·have := room.un;simp only [Around.deeper];omega
noncomputable def SpecInit (pI : Arguments) (bI : List Stmt) (sI : Scope) : Prop :=
 ∀ (w : World) (hb : Heap) (A : Around) (s : Shared) (K : Frag) (C N mem fI fL cell P' : Addr) (pL : Arguments) (bL : List Stmt) (sL : Scope) (x dx : Addr) (v : Value),Gr w hb -> hb.StaysIn s.heap -> Room A 3 -> (∀ p ∈ K,s.heap.get? p.1 = some p.2) ->
  KFr w K C N mem fI fL cell P' pI pL bI bL sI sL -> FnK s.heap P' fI (ofString "__init__") (kQual ++ ofString "." ++ ofString "__init__") pI bI sI [] -> KInst s.heap C x dx #[] ->
  codeAny (model PR w) A (.call (.ref fI) ⟨[.ref x,v],[]⟩) (fun r s' => r = .ok (.ret .none) ∧ Ext [x] s s' ∧ s'.heap.get? x = some { instObj C dx with slots := #[some v] }) s
noncomputable def SpecLt (pL : Arguments) (bL : List Stmt) (sL : Scope) : Prop :=
 ∀ (w : World) (hb : Heap) (A : Around) (s : Shared) (K : Frag) (C N mem fI fL cell P' : Addr) (pI : Arguments) (bI : List Stmt) (sI : Scope) (x dx y dy : Addr) (a b z : Int) (ta tb : Tok) (f : Addr) (m : Nat),Gr w hb -> hb.StaysIn s.heap -> hb.objs.size ≤ s.heap.objs.size -> Room A (m + 2) -> (∀ p ∈ K,s.heap.get? p.1 = some p.2) ->
  KFr w K C N mem fI fL cell P' pI pL bI bL sI sL -> FnK s.heap P' fL (ofString "__lt__") (kQual ++ ofString "." ++ ofString "__lt__") pL bL sL [(ofString "mycmp",cell)] -> s.heap.IsCell cell (some (.ref f)) ->
  keepIn (hd.heap_1 w.params) (.ref f) = true -> Spec m f [.int a,.int b] (.int z) -> KInst s.heap C x dx #[some (.int a ta)] -> KInst s.heap C y dy #[some (.int b tb)] ->
  wpAny (model PR w) A (call (.ref fL) [.ref x,.ref y]) (fun v s' => Ext [] s s' ∧ v = .bool (decide (z < 0))) NoE s
end
noncomputable def SpecCmp (pI pL : Arguments) (bI bL : List Stmt) (sI sL : Scope) : Prop :=
 ∀ (w : World) (hb : Heap) (A : Around) (s : Shared) (mycmp : Value),Gr w hb -> hb.get? 184 = none -> Room A 6 -> hb.StaysIn s.heap -> hb.objs.size ≤ s.heap.objs.size -> s.heap.get? 184 = some (tabObj #[]) ->
  wpAny (model PR w) A (call (.ref 189) [mycmp]) (fun v s' => Ext [184] s s' ∧ KOut w s.heap pI pL bI bL sI sL mycmp v s') NoE s
noncomputable def Parts : Prop := ∃ (pI pL : Arguments) (bI bL : List Stmt) (sI sL : Scope),SpecCmp pI pL bI bL sI sL ∧ SpecInit pI bI sI ∧ SpecLt pL bL sL
theorem parts_intro {a1 a2 d3 d4 d5 d6 a3 : Stmt} {bI bL : List Stmt} {pI pL params : Arguments} {sI sL ksc scope : Scope} {posI posL kpos opos rp rq : Pos} {ts : Option Scope} {pm : Value}
 (h : ∀ P,(hd.heap_1 P).lookup 189 = some ⟨.type "function",none,.func (fnOf (ofString "cmp_to_key") (ofString "cmp_to_key") params [.ClassDef (ofString "K") [.Name (ofString "object") opos] [] [a1,a2,.FunctionDef (ofString "__init__") pI bI [] none [] sI none (ofString "__init__") posI,.FunctionDef (ofString "__lt__") pL bL [] none [] sL none (ofString "__lt__") posL,d3,d4,d5,d6,a3] [] [] ksc ts (ofString "K") [ofString "obj"] kpos,.Return (some (.Name (ofString "K") rp)) rq] scope .none .none .none pm none (.ref 188) .none),#[]⟩)
 (b : SpecBody [a1,a2,.FunctionDef (ofString "__init__") pI bI [] none [] sI none (ofString "__init__") posI,.FunctionDef (ofString "__lt__") pL bL [] none [] sL none (ofString "__lt__") posL,d3,d4,d5,d6,a3] ksc pI pL bI bL sI sL)
 (KS : KSc ksc [a1,a2,.FunctionDef (ofString "__init__") pI bI [] none [] sI none (ofString "__init__") posI,.FunctionDef (ofString "__lt__") pL bL [] none [] sL none (ofString "__lt__") posL,d3,d4,d5,d6,a3])
 (hK : scope.names.lookup (ofString "K") = some .local) (hO : scope.names.lookup (ofString "object") = some .globalImplicit) (hM : scope.names.lookup (ofString "mycmp") = some .cell) (hl : kpos.line = 112)
 (hcl : ∀ L a,(envOfC (ofString "cmp_to_key") scope L 189 (.ref 188)).cells.lookup (ofString "mycmp") = some a -> closureFor ksc (envOfC (ofString "cmp_to_key") scope L 189 (.ref 188)) = pure [(ofString "mycmp",a)])
 (hbind : ∀ b v,bindArgs (fnOf (ofString "cmp_to_key") (ofString "cmp_to_key") params b scope .none .none .none pm none (.ref 188) .none) ⟨[v],[]⟩ = pure [(ofString "mycmp",v)])
 (hnd : ((cellsFrom 0 scope.names []).map (·.1)).Nodup) (hco : scope.isCoroutine = false) (hgen : scope.isGenerator = false) (hk : scope.kind = .function)
 (i : SpecInit pI bI sI) (l : SpecLt pL bL sL) : Parts :=
 ⟨_,_,_,_,_,_,fun w hb A s mycmp g h184 room hst hsz htab => spec_cmp b KS h hK hO hM hl hcl (hbind _) hnd hco hgen hk g h184 room hst hsz htab,i,l⟩
set_option maxHeartbeats 4000000 in
theorem cmp_parts : Parts := by
 refine' parts_intro ?h ?b ?KS ?hK ?hO ?hM ?hl ?hcl ?hbind ?hnd ?hco ?hgen ?hk ?i ?l
 case h => intros P;k_is
 case b =>
  intros w hb A h0 g d t os nsA c' P' frame cell t0 t1 t2 tq t3 G kb0
  refine wpAny_execs_cons (wpAny_Assign_Name ?_)
  refine mkTextD (cls_store rfl (.inl rfl) rfl kb0 ?_)
  intros h1 k1 p1
  show wpAny _ _ (execs _ _) _ _ _
  refine wpAny_execs_cons (wpAny_Assign_Name (List_ (spliced_more ?_ rfl)))
  refine mkTextD (spliced_none ?_)
  refine wpAny_newList ?_ (by rw [sizeLine_eq];simp)
  have fresh1 : h1.get? h1.objs.size = none := Heap.get?_none_of_le (Nat.le_refl _)
  have hl1 : (h1.push { cls := .type "list",data := .seq #[.str (ofString "obj") (t + 1 + 1)] }).IsList h1.objs.size #[.str (ofString "obj") (t + 1 + 1)] := ⟨_,Heap.get?_push_size _ rfl,rfl,_,rfl⟩
  have k1' := k1.push (o := { cls := .type "list",data := .seq #[.str (ofString "obj") (t + 1 + 1)] })
  refine cls_store rfl (.inl rfl) rfl k1' ?_
  intros h2 k2 p2
  show wpAny _ _ (execs _ _) _ _ _
  refine wpAny_execs_cons (cls_def G rfl rfl rfl rfl rfl k2 (by kernel_rfl) rfl rfl rfl rfl ?_)
  intros h3 t3' tk3 fI cc3 k3 p3 fr3 fn3
  show wpAny _ _ (execs _ _) _ _ _
  refine wpAny_execs_cons (cls_def G rfl rfl rfl rfl rfl k3 (by kernel_rfl) rfl rfl rfl rfl ?_)
  intros h4 t4' tk4 fL cc4 k4 p4 fr4 fn4
  show wpAny _ _ (execs _ _) _ _ _
  refine wpAny_execs_cons (cls_def G rfl rfl rfl rfl rfl k4 (by kernel_rfl) rfl rfl rfl rfl ?_)
  intros h5 t5' tk5 fG cc5 k5 p5 fr5 fn5
  show wpAny _ _ (execs _ _) _ _ _
  refine wpAny_execs_cons (cls_def G rfl rfl rfl rfl rfl k5 (by kernel_rfl) rfl rfl rfl rfl ?_)
  intros h6 t6' tk6 fE cc6 k6 p6 fr6 fn6
  show wpAny _ _ (execs _ _) _ _ _
  refine wpAny_execs_cons (cls_def G rfl rfl rfl rfl rfl k6 (by kernel_rfl) rfl rfl rfl rfl ?_)
  intros h7 t7' tk7 fLe cc7 k7 p7 fr7 fn7
  show wpAny _ _ (execs _ _) _ _ _
  refine wpAny_execs_cons (cls_def G rfl rfl rfl rfl rfl k7 (by kernel_rfl) rfl rfl rfl rfl ?_)
  intros h8 t8' tk8 fGe cc8 k8 p8 fr8 fn8
  show wpAny _ _ (execs _ _) _ _ _
  refine wpAny_execs_cons (wpAny_Assign_Name (Constant_none ?_))
  refine cls_store rfl (.inl rfl) rfl k8 ?_
  intros h9 k9 p9
  refine wpAny_execs_nil ?_
  have NN : ∀ {l : List DE} {ps : Array Value} {h : Heap},KB w hb h0 nsA c' P' l ps h -> ∃ es n,h.get? nsA = some (dictOf es n) := fun k => let ⟨n,e⟩ := k.ns;⟨_,n,e⟩
  have PP : ∀ {l : List DE} {ps : Array Value} {h : Heap},KB w hb h0 nsA c' P' l ps h -> ∃ ps,h.get? P' = some (tabObj ps) := fun k => ⟨_,k.ct.tab⟩
  have p9' : ∀ b o,b ≠ nsA -> b ≠ P' -> h8.get? b = some o -> h9.get? b = some o := fun b o n _ e => p9 b o n e
  have mfI := ((((((fn3.move p4 (NN k3) (PP k3)).move p5 (NN k4) (PP k4)).move p6 (NN k5) (PP k5)).move p7 (NN k6) (PP k6)).move p8 (NN k7) (PP k7)).move p9' (NN k8) (PP k8))
  have mfL := (((((fn4.move p5 (NN k4) (PP k4)).move p6 (NN k5) (PP k5)).move p7 (NN k6) (PP k6)).move p8 (NN k7) (PP k7)).move p9' (NN k8) (PP k8))
  have mfG := ((((fn5.move p6 (NN k5) (PP k5)).move p7 (NN k6) (PP k6)).move p8 (NN k7) (PP k7)).move p9' (NN k8) (PP k8))
  have mfE := (((fn6.move p7 (NN k6) (PP k6)).move p8 (NN k7) (PP k7)).move p9' (NN k8) (PP k8))
  have mfLe := ((fn7.move p8 (NN k7) (PP k7)).move p9' (NN k8) (PP k8))
  have mfGe := (fn8.move p9' (NN k8) (PP k8))
  have ln : h1.objs.size ≠ nsA := fun q => by obtain @⟨n,e⟩ := k1.ns;rw [← q,fresh1] at e;cases e
  have lp : h1.objs.size ≠ P' := fun q => by have e := k1.ct.tab;rw [← q,fresh1] at e;cases e
  have hl9 := isList_move (isList_move (isList_move (isList_move (isList_move (isList_move (isList_move (isList_move hl1 (p2 _ · ln)) (p3 _ · ln lp)) (p4 _ · ln lp)) (p5 _ · ln lp)) (p6 _ · ln lp)) (p7 _ · ln lp)) (p8 _ · ln lp)) (p9 _ · ln)
  have k9' := k9
  generalize hl : putT (ofString "__hash__") t8' Value.none _ = l9 at k9'
  have sn : ∀ h2 : Heap,(∀ b o,b ≠ nsA -> b ≠ P' -> h9.get? b = some o -> h2.get? b = some o) -> ∀ q ∈ l9,NoSN (model PR w) h2 q.2.2 := by
   subst hl
   intros h2 kk q hq
   rcases mem_put hq with e | hq
   ·rw [e];exact nosn_none
   rcases mem_put hq with e | hq
   ·rw [e];exact nosn_fn (mfGe.move kk (NN k9) (PP k9))
   rcases mem_put hq with e | hq
   ·rw [e];exact nosn_fn (mfLe.move kk (NN k9) (PP k9))
   rcases mem_put hq with e | hq
   ·rw [e];exact nosn_fn (mfE.move kk (NN k9) (PP k9))
   rcases mem_put hq with e | hq
   ·rw [e];exact nosn_fn (mfG.move kk (NN k9) (PP k9))
   rcases mem_put hq with e | hq
   ·rw [e];exact nosn_fn (mfL.move kk (NN k9) (PP k9))
   rcases mem_put hq with e | hq
   ·rw [e];exact nosn_fn (mfI.move kk (NN k9) (PP k9))
   rcases mem_put hq with e | hq
   ·rw [e];obtain @⟨oL,eL,cL,_⟩ := isList_move hl9 (kk _ · ln lp);exact nosn_ref eL cL sn_list
   rcases mem_put hq with e | hq
   ·rw [e];exact nosn_str
   unfold kStart at hq
   simp only [List.mem_cons,List.not_mem_nil,or_false] at hq
   rcases hq with rfl | rfl | rfl
   ·exact nosn_str
   ·exact nosn_str
   ·exact nosn_int
  refine ⟨rfl,h9,_,l9,h1.objs.size,fI,fL,t + 1 + 1,rfl,{ kb := ⟨_,k9'⟩,kl := { slots := ?a1,obj := ?a2,mod := ?a3,qual := ?a4,doc := ?a5,new := ?a6,isub := ?a7,cgi := ?a8,cc := ?a9,cd := ?a10,del := ?a11,eq := ⟨.ref fE,?a12⟩,hash := ⟨.none,?a13⟩,nosn := sn h9 fun _ _ _ _ e => e,len := ?len },le := ?le,ls := hl9,gi := ?b1,gl := ?b2,no := ?no,sn := sn,fi := mfI,fl := mfL }⟩
  case le =>
   have e : l9.length = 11 := by subst hl;kernel_rfl
   omega
  case len =>
   have e : l9.length = 11 := by subst hl;kernel_rfl
   omega
  case no =>
   subst hl
   intros x hx
   simp only [List.mem_cons,List.not_mem_nil,or_false] at hx
   rcases hx with rfl | rfl | rfl | rfl | rfl | rfl | rfl <;> kernel_rfl
  all_goals (subst hl;kernel_rfl)
 case KS => refine ⟨?_,?_,?_,?_,?_,?_,?_,?_,?_,?_⟩ <;> kernel_rfl
 case hK => kernel_rfl
 case hO => kernel_rfl
 case hM => kernel_rfl
 case hl => rfl
 case hcl => intros L a e;cases e;rfl
 case hbind => intros b v;rfl
 case hnd => decide
 case hco => rfl
 case hgen => rfl
 case hk => rfl
 case i =>
  intros w hb A s K C N mem fI fL cell P' pL bL sL x dx v g hst room X f fn ins
  refine enterFn (m := 2) (binds := [(ofString "self",.ref x),(ofString "obj",v)]) g hst room fn (fun _ _ _ _ => rfl) (by decide) (by intros x hx;simp only [List.mem_cons,List.not_mem_nil,or_false] at hx;rcases hx with rfl | rfl <;> rfl) (fun A' env h0 cd t henv room' hns hkp => ?_) rfl rfl rfl
  subst henv
  have X0 : K.In h0 := fun b o e => hkp b o (frag_in X b o e)
  have ins0 : KInst h0 C x dx #[] := ⟨hkp _ _ ins.at_,hkp _ _ ins.dd⟩
  refine wpAny_execs_cons (plainObj_wpAny_Assign_Attribute (wpAny_Name (wpAny_loadName_local rfl rfl hns (v := v) rfl (wpAny_Name (wpAny_loadName_local rfl rfl hns (v := .ref x) rfl ?_)))))
  refine set_obj (s := { s with heap := h0,toks := t }) X0 f ins0 ?_
  intros h' tk sb e
  refine wpAny_execs_nil ⟨rfl,⟨fun b o nb eb => sb.extBut b o (fun q => nb (q ▸ List.mem_singleton.mpr rfl)) (hkp b o eb),rfl,fun z => z⟩,e⟩
 case l =>
  intros w hb A s K C N mem fI fL cell P' pI bI sI x dx y dy a b z ta tb f m g hst hsz room X kf fn hcell hkeep sp ix iy
  refine wpAny_call (enterFn (m := m + 1) (binds := [(ofString "self",.ref x),(ofString "other",.ref y)]) g hst room fn (fun _ _ _ _ => rfl) (by decide) (by intros x hx;simp only [List.mem_cons,List.not_mem_nil,or_false] at hx;rcases hx with rfl | rfl <;> rfl) (fun A' env h0 cd t henv room' hns hkp => ?_) rfl rfl rfl)
  subst henv
  have X0 : K.In h0 := fun b o e => hkp b o (frag_in X b o e)
  have ix0 : KInst h0 C x dx #[some (.int a ta)] := ⟨hkp _ _ ix.at_,hkp _ _ ix.dd⟩
  have iy0 : KInst h0 C y dy #[some (.int b tb)] := ⟨hkp _ _ iy.at_,hkp _ _ iy.dd⟩
  have hst0 : hb.StaysIn h0 := fun b o e => hkp b o (hst b o e)
  refine wpAny_execs_cons (wpAny_Return_some (wpAny_Compare1 (Call_ (wpAny_Name (wpAny_loadName_free rfl rfl rfl (isCell_move hcell (hkp _)) ?_)))))
  refine callWith_K (first := []) g.X hkeep (args_cons (Attribute_any_ (wpAny_Name (wpAny_loadName_local rfl rfl hns (v := .ref x) rfl (get_obj (s := { s with heap := h0,toks := t }) X0 kf ix0 rfl ?_)))))
  refine args_cons (Attribute_any_ (wpAny_Name (wpAny_loadName_local rfl rfl hns (v := .ref y) rfl (get_obj (s := { s with heap := h0,toks := t + 1 }) X0 kf iy0 rfl ?_))))
  refine args_nil ⟨fun b o e => hst0 b o (g.X b o e),?_⟩
  have rm : Room A' m := ⟨room'.hh,by have := room'.dp;omega,by have := room'.un;omega⟩
  have hz0 : hb.objs.size ≤ h0.objs.size := by
   have := hns
   obtain @⟨o,_,_,eo,_⟩ := this
   exact Nat.le_trans hsz (Nat.le_of_lt (Heap.lt_size eo))
  refine fin (sp w hb [] A' _ [.int a ta,.int b tb] g rm hst0 hz0 ⟨fun _ q => (nomatch q),fun _ q => (nomatch q)⟩ (by unfold Rels;refine ⟨_,_,rfl,by unfold Rel;exact ⟨_,rfl⟩,?_⟩;unfold Rels;refine ⟨_,_,rfl,by unfold Rel;exact ⟨_,rfl⟩,?_⟩;unfold Rels;rfl)) fun v s1 q => ?_
  obtain @⟨q1,q2⟩ := q
  obtain @⟨tz,rfl⟩ := rint q2
  refine wpAny_Constant_int (wpAny_lt_int ?_)
  refine ⟨⟨fun b o nb e => q1.keep b o nb (hkp b o e),q1.os,q1.gens⟩,rfl⟩
section
structure KHere (w : World) (hb h : Heap) (K : Frag) (C N mem fI fL cell P' : Addr) (pI pL : Arguments) (bI bL : List Stmt) (sI sL : Scope) (f : Addr) : Prop where
 g : Gr w hb
 X : ∀ p ∈ K,h.get? p.1 = some p.2
 fr : KFr w K C N mem fI fL cell P' pI pL bI bL sI sL
 fI : FnK h P' fI (ofString "__init__") (kQual ++ ofString "." ++ ofString "__init__") pI bI sI []
 fL : FnK h P' fL (ofString "__lt__") (kQual ++ ofString "." ++ ofString "__lt__") pL bL sL [(ofString "mycmp",cell)]
 cell : h.IsCell cell (some (.ref f))
 st : hb.StaysIn h
 sz : hb.objs.size ≤ h.objs.size
section
variable {w : World} {hb : Heap} {A : Around} {s : Shared} {K : Frag} {C N mem fI fL cell P' f : Addr} {pI pL : Arguments} {bI bL : List Stmt} {sI sL : Scope}
theorem KHere.off {h h' : Heap} {L : Addr} {m : Str -> Option Value} (x : KHere w hb h K C N mem fI fL cell P' pI pL bI bL sI sL f) (hL : h.Ns L m) (hN : N ≠ L) (hbL : hb.get? L = none) (k : ∀ b o,b ≠ L -> h.get? b = some o -> h'.get? b = some o) (hz : hb.objs.size ≤ h'.objs.size) : KHere w hb h' K C N mem fI fL cell P' pI pL bI bL sI sL f := by
 obtain ⟨oL,es,ep,eo,dd,_⟩ := hL
 have kf : ∀ {f name qual params body scope clos},FnK h P' f name qual params body scope clos -> FnK h' P' f name qual params body scope clos := by
  intro f name qual params body scope clos x
  obtain ⟨doc,pm,cd,ctv,e,hcP,c2,o2,vs2,t2,e2,g2,hd2,r2⟩ := x
  cases e2
  exact ⟨doc,pm,_,ctv,k _ _ (fun q => by rw [q,eo] at e;cases e;cases dd) e,hcP,_,o2,vs2,t2,rfl,k _ _ (fun q => by rw [q,eo] at g2;cases g2;rw [dd] at hd2;cases hd2) g2,hd2,r2⟩
 refine ⟨x.g,fun p hp => k _ _ (fun q => ?_) (x.X p hp),x.fr,kf x.fI,kf x.fL,?_,fun b o e => k b o (fun q => by rw [q,hbL] at e;cases e) (x.st b o e),hz⟩
 ·rcases x.fr.nd p hp with h1 | h1
  ·exact hN (h1.symm.trans q)
  ·have := x.X p hp
   rw [q,eo] at this
   cases this
   exact h1 _ _ dd
 ·obtain ⟨o,e,d⟩ := x.cell
  exact ⟨o,k _ _ (fun q => by rw [q,eo] at e;cases e;rw [dd] at d;cases d) e,d⟩
theorem KInst.keeps {h h' : Heap} {x dx : Addr} {sl : Array (Option Value)} (i : KInst h C x dx sl) (k : ∀ b o,h.get? b = some o -> h'.get? b = some o) : KInst h' C x dx sl := ⟨k _ _ i.at_,k _ _ i.dd⟩
theorem make_KI {v : Value} (SI : SpecInit pI bI sI) (k : KHere w hb s.heap K C N mem fI fL cell P' pI pL bI bL sI sL f) (room : Room A 4) :
  wpAny (model PR w) A (call (.ref C) [v]) (fun r s' => ∃ x dx,r = .ref x ∧ Ext [] s s' ∧ KInst s'.heap C x dx #[some v] ∧ s.heap.get? x = none ∧ s.heap.get? dx = none ∧ dx ≠ x) NoE s := by
 obtain ⟨hh,g,d,t,os⟩ := s
 have X : K.In hh := frag_in k.X
 refine wpAny_call ?_
 refine make_core (makes_of X k.fr.makes) (looks_findIn X k.fr.init) (fun self => bind_fn X self k.fr.isI) (.inl rfl) ?_
 have kp : ∀ b o,hh.get? b = some o -> ((hh.push emptyDict).push (instObj C hh.objs.size)).get? b = some o := fun b o e => Heap.get?_push_of_some _ (Heap.get?_push_of_some _ e)
 have hx : ((hh.push emptyDict).push (instObj C hh.objs.size)).get? (hh.objs.size + 1) = some (instObj C hh.objs.size) := by heap_get
 have hd : ((hh.push emptyDict).push (instObj C hh.objs.size)).get? hh.objs.size = some emptyDict := by heap_get
 have n1 : hh.get? (hh.objs.size + 1) = none := Heap.get?_none_of_le (Nat.le_succ _)
 have n2 : hh.get? hh.objs.size = none := Heap.get?_none_of_le (Nat.le_refl _)
 have rm : Room (A.under (.builtin "type.__call__" ⟨[.ref C,v],[]⟩)) 3 := by
  refine ⟨room.hh,?_,?_⟩
  ·have := room.dp
   show A.depth + Code.weight _ + 3 ≤ 600
   rw [show Code.weight (.builtin "type.__call__" ⟨[.ref C,v],[]⟩) = 1 by kernel_rfl];omega
  ·have := room.un
   show A.units + Code.cUnits _ + 20 * 3 ≤ 6000
   rw [show Code.cUnits (.builtin "type.__call__" ⟨[.ref C,v],[]⟩) = 1 by kernel_rfl];omega
 refine codeAny_mono (SI w hb _ ⟨(hh.push emptyDict).push (instObj C hh.objs.size),g,d,t,os⟩ K C N mem fI fL cell P' pL bL sL (hh.objs.size + 1) hh.objs.size v k.g (fun b o e => kp b o (k.st b o e)) rm (fun p hp => kp _ _ (k.X p hp)) k.fr (k.fI.keeps kp) ⟨hx,hd⟩) fun r s' z => ?_
 obtain ⟨rfl,e,hs⟩ := z
 refine ⟨rfl,hh.objs.size + 1,hh.objs.size,rfl,⟨fun b o _ eb => e.keep b o (fun q => ?_) (kp b o eb),e.os,e.gens⟩,⟨hs,e.keep _ _ (fun q => ?_) hd⟩,n1,n2,Nat.ne_of_lt (Nat.lt_succ_self _)⟩
 ·rw [List.mem_singleton.mp q,n1] at eb;cases eb
 ·exact absurd (List.mem_singleton.mp q) (Nat.ne_of_lt (Nat.lt_succ_self _))
theorem lt_KI {x dx y dy : Addr} {a b z : Int} {ta tb : Tok} {m : Nat} {Q : Bool -> Shared -> Prop} (SL : SpecLt pL bL sL) (k : KHere w hb s.heap K C N mem fI fL cell P' pI pL bI bL sI sL f) (room : Room A (m + 2)) (hkeep : keepIn (hd.heap_1 w.params) (.ref f) = true) (sp : Spec m f [.int a,.int b] (.int z))
  (ix : KInst s.heap C x dx #[some (.int a ta)]) (iy : KInst s.heap C y dy #[some (.int b tb)]) (q : ∀ s',Ext [] s s' -> Q (decide (z < 0)) s') : wpAny (model PR w) A (keyLt' oneType' (.ref x) (.ref y)) Q NoE s := by
 have X : K.In s.heap := frag_in k.X
 rw [keyLt'_oneType,oneLt'_eq]
 simp only [if_true]
 refine wpAny_bind (wpAny_cRoomFor (by have := room.un;simp only [cLine];omega) ?_)
 refine wpAny_bind (ifBound_K X ix.inst k.fr.lt (by unfold isFn;rw [k.fr.isL];rfl) (wpAny_mono (SL w hb A s K C N mem fI fL cell P' pI bI sI x dx y dy a b z ta tb f m k.g k.st k.sz room k.X k.fr k.fL k.cell hkeep sp ix iy) (fun v s' hv => ?_) fun _ _ e => e.elim))
 obtain ⟨e,rfl⟩ := hv
 exact wpAny_truthy_bool (q s' e)
end
end
section
noncomputable def Go (c : Nat -> Nat -> Bool) (n : Nat) {α : Type} (P : α -> Prop) : KasT α -> Prop
 | .ret a => P a
 | .ask i j k => i < n ∧ j < n ∧ Go c n P (k (c i j))
theorem Go.wp {c : Nat -> Nat -> Bool} {n : Nat} {α : Type} {P : α -> Prop} {cmp : Nat -> Nat -> (Bool -> Shared -> Prop) -> Shared -> Prop} {I : Shared -> Prop} {Q : α -> Shared -> Prop}
  (hc : ∀ i j,i < n -> j < n -> ∀ s,I s -> ∀ C : Bool -> Shared -> Prop,(∀ s',I s' -> C (c i j) s') -> cmp i j C s) (hq : ∀ a,P a -> ∀ s,I s -> Q a s) : ∀ (t : KasT α),Go c n P t -> ∀ s,I s -> t.kasWp cmp Q s
 | .ret a,h,s,hs => hq a h s hs
 | .ask i j k,h,s,hs => hc i j h.1 h.2.1 s hs _ fun s' hs' => Go.wp hc hq (k (c i j)) h.2.2 s' hs'
noncomputable def allBut (h : Heap) (no : List Addr) : List (Addr × Obj) := (List.range h.objs.size).filterMap fun a => if a ∈ no then none else (h.get? a).map fun o => (a,o)
theorem mem_allBut {h : Heap} {no : List Addr} {p : Addr × Obj} : p ∈ allBut h no ↔ p.1 ∉ no ∧ h.get? p.1 = some p.2 := by
 unfold allBut
 rw [List.mem_filterMap]
 constructor
 ·rintro ⟨a,ha,e⟩
  split at e
  ·cases e
  ·rename_i hn
   obtain ⟨o,ho,rfl⟩ := Option.map_eq_some_iff.mp e
   exact ⟨hn,ho⟩
 ·rintro ⟨hn,e⟩
  refine ⟨p.1,List.mem_range.mpr (Heap.lt_size e),?_⟩
  rw [if_neg hn,e];rfl
noncomputable def noHeap : Heap := {}
theorem no_get (b : Addr) : noHeap.get? b = none := Heap.get?_none_of_le (Nat.zero_le _)
theorem fr0 {h : Heap} {L : Addr} {m : Str -> Option Value} (n : h.Ns L m) : Fr noHeap L h m := ⟨n,fun b o e => (by rw [no_get] at e;cases e),Nat.zero_le _⟩
noncomputable def KeysAt (h : Heap) (C L : Addr) (ks vs : List Value) : Prop := ks.length = vs.length ∧ ∀ i,i < vs.length -> ∃ x dx,ks.getD i .none = .ref x ∧ KInst h C x dx #[some (vs.getD i .none)] ∧ dx ≠ L
theorem KeysAt.nil {h : Heap} {C L : Addr} : KeysAt h C L [] [] := ⟨rfl,fun i hi => (nomatch hi)⟩
theorem KInst.off {h h' : Heap} {C x dx L kS D : Addr} {v : Value} {m : Str -> Option Value} {xs ys : Array Value} {e e1 : Nat} (i : KInst h C x dx #[some v]) (hL : h.Ns L m) (hd : dx ≠ L) (h1 : h.get? kS = some (seqObj "list" xs e)) (h2 : h.get? D = some (seqObj "list" ys e1))
  (k : ∀ b o,b ≠ L -> b ≠ kS -> b ≠ D -> h.get? b = some o -> h'.get? b = some o) : KInst h' C x dx #[some v] := by
 obtain ⟨oL,es,ep,eo,dd,_⟩ := hL
 refine ⟨k _ _ (fun q => ?_) (fun q => ?_) (fun q => ?_) i.at_,k _ _ hd (fun q => ?_) (fun q => ?_) i.dd⟩
 ·have := i.at_;rw [q,eo] at this;cases this;cases dd
 ·have := i.at_;rw [q,h1] at this;cases this
 ·have := i.at_;rw [q,h2] at this;cases this
 ·have := i.dd;rw [q,h1] at this;have := congrArg Obj.data (Option.some.inj this);cases this
 ·have := i.dd;rw [q,h2] at this;have := congrArg Obj.data (Option.some.inj this);cases this
theorem KeysAt.off {h h' : Heap} {C L kS D : Addr} {ks vs : List Value} {m : Str -> Option Value} {xs ys : Array Value} {e e1 : Nat} (i : KeysAt h C L ks vs) (hL : h.Ns L m) (h1 : h.get? kS = some (seqObj "list" xs e)) (h2 : h.get? D = some (seqObj "list" ys e1))
  (k : ∀ b o,b ≠ L -> b ≠ kS -> b ≠ D -> h.get? b = some o -> h'.get? b = some o) : KeysAt h' C L ks vs :=
 ⟨i.1,fun j hj => let ⟨x,dx,e1,e2,e3⟩ := i.2 j hj;⟨x,dx,e1,e2.off hL e3 h1 h2 k,e3⟩⟩
theorem KeysAt.keeps {h h' : Heap} {C L : Addr} {ks vs : List Value} (i : KeysAt h C L ks vs) (k : ∀ b o,h.get? b = some o -> h'.get? b = some o) : KeysAt h' C L ks vs :=
 ⟨i.1,fun j hj => let ⟨x,dx,e1,e2,e3⟩ := i.2 j hj;⟨x,dx,e1,e2.keeps k,e3⟩⟩
theorem KeysAt.snoc {h : Heap} {C L x dx : Addr} {ks vs : List Value} {v : Value} (i : KeysAt h C L ks vs) (hi : KInst h C x dx #[some v]) (hd : dx ≠ L) : KeysAt h C L (ks ++ [.ref x]) (vs ++ [v]) := by
 refine ⟨by simp [i.1],fun j hj => ?_⟩
 rw [List.length_append,List.length_singleton] at hj
 by_cases q : j < vs.length
 ·obtain ⟨x,dx,e1,e2,e3⟩ := i.2 j q
  refine ⟨x,dx,?_,?_,e3⟩
  ·rw [← e1]
   have : j < ks.length := by rw [i.1];exact q
   simp [List.getD,List.getElem?_append_left this]
  ·have : (vs ++ [v]).getD j .none = vs.getD j .none := by simp [List.getD,List.getElem?_append_left q]
   rw [this];exact e2
 ·have e : j = vs.length := by omega
  subst e
  refine ⟨x,dx,?_,?_,hd⟩
  ·rw [← i.1];simp [List.getD]
  ·have : (vs ++ [v]).getD vs.length .none = v := by simp [List.getD]
   rw [this];exact hi
section
variable {w : World} {hb : Heap} {A : Around} {s : Shared} {K : Frag} {C N mem fI fL cell P' f : Addr} {pI pL : Arguments} {bI bL : List Stmt} {sI sL : Scope} {L kS D : Addr} {m : Str -> Option Value} {e1 : Nat}
structure KInv (s : Shared) (C L kS D : Addr) (m : Str -> Option Value) (e1 : Nat) (s1 : Shared) (ks : List Value) (e : Nat) (vs : List Value) : Prop where
 ns : s1.heap.Ns L m
 kS : s1.heap.get? kS = some (seqObj "list" ks.toArray e)
 dD : s1.heap.get? D = some (seqObj "list" #[] e1)
 ext : Ext [L] s s1
 keys : KeysAt s1.heap C L ks vs
theorem KInv.news {s1 : Shared} {ks vs : List Value} {e : Nat} (i : KInv s C L kS D m e1 s1 ks e vs) (hk : kS ≠ L) (hD : D ≠ L) : News noHeap L s1.heap ((kS,seqObj "list" ks.toArray e) :: (D,seqObj "list" #[] e1) :: allBut s1.heap [L,kS,D]) := by
 intro p hp
 rcases List.mem_cons.mp hp with rfl | hp
 ·exact ⟨i.kS,hk,no_get _⟩
 rcases List.mem_cons.mp hp with rfl | hp
 ·exact ⟨i.dD,hD,no_get _⟩
 obtain ⟨h1,h2⟩ := mem_allBut.mp hp
 exact ⟨h2,fun q => h1 (by simp [q]),no_get _⟩
theorem news_all {h h' : Heap} {no : List Addr} {news : List (Addr × Obj)} (N : News noHeap L h' (news ++ allBut h no)) : ∀ b o,b ∉ no -> h.get? b = some o -> h'.get? b = some o := fun b o hb e => (N (b,o) (List.mem_append_right _ (mem_allBut.mpr ⟨hb,e⟩))).1
theorem keys_K {vs : List Value} {Fin : List Value -> Nat -> Shared -> Prop} (SI : SpecInit pI bI sI) (k : KHere w hb s.heap K C N mem fI fL cell P' pI pL bI bL sI sL f) (room : Room A 4) (hL : s.heap.Ns L m) (hbz : hb.objs.size ≤ L) (hNL : N ≠ L)
  (hkS : s.heap.get? kS = none) (hD : s.heap.get? D = none) (hkD : kS ≠ D) (hfin : ∀ ks e s1,KInv s C L kS D m e1 s1 ks e vs -> Fin ks e s1) :
  ∀ (r vs0 ks : List Value) (e : Nat) (s1 : Shared),vs = vs0 ++ r -> KInv s C L kS D m e1 s1 ks e vs0 -> KatKeys PR w A noHeap L m kS (.ref C) Fin r ks e s1
 | [],vs0,ks,e,s1,hv,i => by
  rw [List.append_nil] at hv;subst hv
  exact KatKeys.nil (hfin _ _ _ i)
 | v :: r,vs0,ks,e,s1,hv,i => by
  have hL1 : L < s1.heap.objs.size := by obtain ⟨o,_,_,eo,_⟩ := i.ns;exact Heap.lt_size eo
  have hbL : hb.get? L = none := Heap.get?_none_of_le hbz
  have lL : ∃ o,s.heap.get? L = some o := by obtain ⟨o,_,_,eo,_⟩ := hL;exact ⟨o,eo⟩
  have kL : kS ≠ L := fun q => by obtain ⟨o,eo⟩ := lL;rw [q,eo] at hkS;cases hkS
  have DL : D ≠ L := fun q => by obtain ⟨o,eo⟩ := lL;rw [q,eo] at hD;cases hD
  have k1 : KHere w hb s1.heap K C N mem fI fL cell P' pI pL bI bL sI sL f := k.off hL hNL hbL (fun b o nb e => i.ext.keep b o (fun q => nb (List.mem_singleton.mp q)) e) (Nat.le_trans hbz (Nat.le_of_lt hL1))
  refine KatKeys.cons (wpAny_mono (make_KI SI k1 room) (fun r' s2 z => ?_) fun _ _ z => z.elim)
  obtain ⟨x,dx,rfl,e2,ins,fx,fdx,_⟩ := z
  have i2 : KInv s C L kS D m e1 s2 ks e vs0 := ⟨i.ns.keeps e2.all,e2.all _ _ i.kS,e2.all _ _ i.dD,i.ext.trans e2.nil,i.keys.keeps e2.all⟩
  refine KatBack.intro (fr0 i2.ns) (i2.news kL DL) (.head fun p hp => ?_) fun h' c F' N' => ?_
  ·rcases List.mem_cons.mp hp with rfl | hp
   ·exact Ne.symm hkD
   ·exact fun q => (mem_allBut.mp hp).1 (by simp [q])
  ·have kk : ∀ b o,b ≠ L -> b ≠ kS -> b ≠ D -> s2.heap.get? b = some o -> h'.get? b = some o := fun b o h1 h2 h3 e => news_all (news := [(kS,seqObj "list" (ks ++ [Value.ref x]).toArray c),(D,seqObj "list" #[] e1)]) N' b o (by simp [h1,h2,h3]) e
   have dxL : dx ≠ L := fun q => by obtain ⟨o,_,_,eo,_⟩ := i.ns;rw [q,eo] at fdx;cases fdx
   refine keys_K SI k room hL hbz hNL hkS hD hkD hfin r (vs0 ++ [v]) (ks ++ [.ref x]) c { s2 with heap := h' } (by rw [hv];simp) ⟨F'.ns,(N' _ (.head _)).1,(N' _ (.tail _ (.head _))).1,⟨fun b o nb e => ?_,i2.ext.os,i2.ext.gens⟩,(i2.keys.off i2.ns i2.kS i2.dD kk).snoc (ins.off i2.ns dxL i2.kS i2.dD kk) dxL⟩
   exact kk b o (fun q => nb (List.mem_singleton.mpr q)) (fun q => by rw [q,hkS] at e;cases e) (fun q => by rw [q,hD] at e;cases e) (i2.ext.keep b o nb e)
theorem sorted_K {l : Addr} {vs : List Value} {ns : List Int} {z : Int -> Int -> Int} {mm : Nat} {P : Array Nat -> Prop} {Q : Value -> Shared -> Prop} (SI : SpecInit pI bI sI) (SL : SpecLt pL bL sL) (k : KHere w hb s.heap K C N mem fI fL cell P' pI pL bI bL sI sL f) (room : Room A (mm + 5)) (hL : s.heap.Ns L m) (hbz : hb.objs.size ≤ L) (hNL : N ≠ L)
  (hkeep : keepIn (hd.heap_1 w.params) (.ref f) = true) (sp : ∀ a b,Spec mm f [.int a,.int b] (.int (z a b))) (hl : s.heap.IsList l vs.toArray) (hv : ∀ i,i < vs.length -> ∃ t,vs.getD i .none = .int (ns.getD i 0) t) (h2 : 2 ≤ vs.length) (h64 : vs.length < 64)
  (hgo : Go (fun i j => decide (z (ns.getD i 0) (ns.getD j 0) < 0)) vs.length P (kas_sort vs.length))
  (q : ∀ p D c s',P p -> s.heap.get? D = none -> Ext [L] s s' -> s'.heap.Ns L m -> s'.heap.get? D = some (listOf (p.toList.map fun i => vs.getD i .none).toArray c) -> Q (.ref D) s') :
  wpAny (model PR w) A (call (.builtin "sorted") [.ref l] [(ofString "key",.ref C)]) Q NoE s := by
 have hbL : hb.get? L = none := Heap.get?_none_of_le hbz
 have rm : Room A.in1.in1 (mm + 4) := ⟨room.hh,by have : A.depth + (mm + 5) ≤ 600 := room.dp;show A.depth + (mm + 4) ≤ 600;omega,by have := room.un;show A.units + 1 + 1 + 20 * (mm + 4) ≤ 6000;omega⟩
 refine kat_sortedK (b := false) (fr0 hL) (N := fun p hp => ?_) (news := allBut s.heap [L]) hl h2 h64 (ksk_s1 _ _) (fun x => ksk_l1 _ _) (fun x => ksk_t1 _ _) fun D kS e1 h' F1 N1 hDk hlow => ?_
 ·obtain ⟨h1,h2⟩ := mem_allBut.mp hp
  exact ⟨h2,fun q => h1 (by simp [q]),no_get _⟩
 have kp1 : ∀ b o,b ≠ L -> s.heap.get? b = some o -> h'.get? b = some o := fun b o nb e => news_all (news := [(kS,seqObj "list" #[] 0),(D,seqObj "list" #[] e1)]) N1 b o (by simp [nb]) e
 have hLs : ∃ o,s.heap.get? L = some o := by obtain ⟨o,_,_,eo,_⟩ := hL;exact ⟨o,eo⟩
 have hDL : D ≠ L := (N1 _ (.tail _ (.head _))).2.1
 have hkL : kS ≠ L := (N1 _ (.head _)).2.1
 have hDn : s.heap.get? D = none := by
  cases e : s.heap.get? D with
  | none => rfl
  | some o => exact absurd (hlow (D,o) (mem_allBut.mpr ⟨by simp [hDL],e⟩)) (Nat.lt_irrefl _)
 have hkn : s.heap.get? kS = none := by
  cases e : s.heap.get? kS with
  | none => rfl
  | some o => exact absurd (hlow (kS,o) (mem_allBut.mpr ⟨by simp [hkL],e⟩)) (Nat.not_lt.mpr (Nat.le_of_lt hDk))
 have hkD : kS ≠ D := Nat.ne_of_gt hDk
 have i0 : KInv s C L kS D m e1 { s with heap := h' } [] 0 [] := ⟨F1.ns,(N1 _ (.head _)).1,(N1 _ (.tail _ (.head _))).1,⟨fun b o nb e => kp1 b o (fun q => nb (List.mem_singleton.mpr q)) e,rfl,fun x => x⟩,KeysAt.nil⟩
 refine keys_K SI k ⟨rm.hh,by have := rm.dp;omega,by have := rm.un;omega⟩ hL hbz hNL hkn hDn hkD (vs := vs) (fun ks e s1 i => ?_) vs [] [] 0 _ rfl i0
 have hlen : ks.length = vs.length := i.keys.1
 have k1 : KHere w hb s1.heap K C N mem fI fL cell P' pI pL bI bL sI sL f := k.off hL hNL hbL (fun b o nb e => i.ext.keep b o (fun q => nb (List.mem_singleton.mp q)) e) (by
  obtain ⟨o,_,_,eo,_⟩ := i.ns;exact Nat.le_trans hbz (Nat.le_of_lt (Heap.lt_size eo)))
 refine kas_kind (T := .ref C) (by rw [hlen];exact h2) (fun v hv' => ?_) rfl (by simp) ?_
 ·obtain ⟨j,hj,rfl⟩ := List.getElem_of_mem hv'
  obtain ⟨x,dx,ex,hi,_⟩ := i.keys.2 j (by rw [← hlen];exact hj)
  have : ks[j] = .ref x := by rw [← ex];simp [List.getD,hj]
  rw [this]
  exact hi.inst.type
 refine Go.wp (I := fun s3 => Ext [] s1 s3) (P := P) ?_ ?_ _ hgo s1 (Ext.refl _ _)
 ·intro a b ha hb' s3 e3 Q' hq
  obtain ⟨x,dx,ex,hx,_⟩ := i.keys.2 a ha
  obtain ⟨y,dy,ey,hy,_⟩ := i.keys.2 b hb'
  obtain ⟨ta,eva⟩ := hv a ha
  obtain ⟨tb,evb⟩ := hv b hb'
  rw [eva] at hx
  rw [evb] at hy
  unfold kas_ask
  show wpAny _ _ (keyLt' oneType' (ks.getD a .none) (ks.getD b .none)) _ _ _
  rw [ex,ey]
  have hz3 : hb.objs.size ≤ s3.heap.objs.size := by
   obtain ⟨o,_,_,eo,_⟩ := i.ns;exact Nat.le_trans hbz (Nat.le_of_lt (Heap.lt_size (e3.all _ _ eo)))
  have k3 : KHere w hb s3.heap K C N mem fI fL cell P' pI pL bI bL sI sL f := ⟨k1.g,fun p hp => e3.all _ _ (k1.X p hp),k1.fr,k1.fI.keeps e3.all,k1.fL.keeps e3.all,isCell_move k1.cell (e3.all _),fun b o e => e3.all b o (k1.st b o e),hz3⟩
  exact lt_KI SL k3 ⟨rm.hh,by have := rm.dp;omega,by have := rm.un;omega⟩ hkeep (sp _ _) (hx.keeps e3.all) (hy.keeps e3.all) fun s4 e4 => hq s4 (e3.trans e4)
 ·intro p hp s3 e3
  have i3 : KInv s C L kS D m e1 s3 ks e vs := ⟨i.ns.keeps e3.all,e3.all _ _ i.kS,e3.all _ _ i.dD,i.ext.trans e3.nil,i.keys.keeps e3.all⟩
  refine KatFin.intro (fr0 i3.ns) (i3.news hkL hDL) (.head fun p hp => ?_) fun h4 c F4 N4 => ?_
  ·rcases List.mem_cons.mp hp with rfl | hp
   ·exact Ne.symm hkD
   ·exact fun q => (mem_allBut.mp hp).1 (by simp [q])
  refine KasFin.intro F4 N4 (.tail hkD (.head fun p hp => fun q => (mem_allBut.mp hp).1 (by simp [q]))) fun h5 c5 F5 N5 => ?_
  refine q p D c5 _ hp hDn ⟨fun b o nb e => ?_,i3.ext.os,i3.ext.gens⟩ F5.ns (N5 _ (.tail _ (.head _))).1
  have nb' : b ≠ L := fun q => nb (List.mem_singleton.mpr q)
  exact news_all (news := [(kS,seqObj "list" #[] c),(D,listOf (p.toList.map fun i => vs.getD i Value.none).toArray c5)]) N5 b o (by simp [nb'];exact ⟨fun q => (by rw [q,hkn] at e;cases e),fun q => (by rw [q,hDn] at e;cases e)⟩) (i3.ext.keep b o nb e)
end
end
section
theorem rev_at {p : Array Nat} {i j : Nat} (hj : j ≤ p.size) (k : Nat) : (kas_rev p i j).getD k 0 = if i ≤ k ∧ k < j then p.getD (i + j - 1 - k) 0 else p.getD k 0 := by
 unfold kas_rev
 rw [Array.getD_eq_getD_getElem?,getElem?_mirror_all hj,Array.getD_eq_getD_getElem?,Array.getD_eq_getD_getElem?]
 split <;> rfl
theorem rev_in {p : Array Nat} {b n i j : Nat} (hn : n ≤ p.size) (h1 : b ≤ i) (h2 : i < n) (e : i + j + 1 = b + n) : (kas_rev p b n).getD i 0 = p.getD j 0 := by
 rw [rev_at hn,if_pos ⟨h1,h2⟩,← e,Nat.add_sub_cancel,Nat.add_sub_cancel_left]
theorem rev_out {p : Array Nat} {b n i : Nat} (hn : n ≤ p.size) (h : i < b ∨ n ≤ i) : (kas_rev p b n).getD i 0 = p.getD i 0 := by
 rw [rev_at hn,if_neg fun q => h.elim (Nat.not_lt.mpr q.1) (Nat.not_le.mpr q.2)]
theorem flip {b n i : Nat} (h1 : b ≤ i) (h2 : i < n) : ∃ j,i + j + 1 = b + n ∧ b ≤ j ∧ j < n := ⟨b + n - 1 - i,by omega⟩
theorem flip_lt {i j i' j' c : Nat} (h : i < j) (h1 : i + i' + 1 = c) (h2 : j + j' + 1 = c) : j' < i' := by omega
theorem mid_le {l r : Nat} (h : l < r) : l ≤ (l + r) / 2 ∧ (l + r) / 2 < r := by omega
theorem pre_lt {n : Nat} (h : 1 ≤ n) : n - 1 < n := Nat.sub_lt h Nat.one_pos
theorem bub_at {p : Array Nat} {k l : Nat} (hk : k < p.size) (hl : l ≤ k) (i : Nat) : (bubble p k (k - l)).getD i 0 = if i = l then p.getD k 0 else if l < i ∧ i ≤ k then p.getD (i - 1) 0 else p.getD i 0 := by
 have h := getElem?_bubble (xs := p) hk (k - l) (Nat.sub_le _ _) i
 rw [Array.getD_eq_getD_getElem?,h]
 have e : k - (k - l) = l := Nat.sub_sub_self hl
 rw [e]
 by_cases h1 : i = l
 ·rw [if_pos h1,if_pos h1,Array.getD_eq_getD_getElem?]
 ·rw [if_neg h1,if_neg h1]
  by_cases h2 : l < i ∧ i ≤ k
  ·rw [if_pos h2,if_pos h2,Array.getD_eq_getD_getElem?]
  ·rw [if_neg h2,if_neg h2,Array.getD_eq_getD_getElem?]
section
variable {κ : Nat -> Int} {N : Nat}
noncomputable abbrev KC (κ : Nat -> Int) : Nat -> Nat -> Bool := fun i j => decide (κ i < κ j)
noncomputable def KR (κ : Nat -> Int) (i j : Nat) : Prop := κ i < κ j ∨ (κ i = κ j ∧ i < j)
structure Pm (N : Nat) (p : Array Nat) (k : Nat) : Prop where
 sz : p.size = N
 pm : p.Perm (List.toArray (List.range N))
 id : ∀ i,k ≤ i -> i < N -> p.getD i 0 = i
 lo : ∀ i,i < k -> p.getD i 0 < k
 le : k ≤ N
structure SS (κ : Nat -> Int) (N : Nat) (p : Array Nat) (k : Nat) : Prop extends Pm N p k where
 so : ∀ i j,i < j -> j < k -> KR κ (p.getD i 0) (p.getD j 0)
structure DD (κ : Nat -> Int) (N : Nat) (p : Array Nat) (k : Nat) : Prop extends Pm N p k where
 so : ∀ i j,i < j -> j < k -> KR κ (p.getD j 0) (p.getD i 0)
theorem Pm.lt {p : Array Nat} {k : Nat} (x : Pm N p k) (h0 : 0 < N) (i : Nat) : p.getD i 0 < N := by
 by_cases h : i < k
 ·exact Nat.lt_of_lt_of_le (x.lo i h) x.le
 ·by_cases h2 : i < N
  ·rw [x.id i (Nat.le_of_not_lt h) h2];exact h2
  ·have : p.getD i 0 = 0 := by rw [Array.getD_eq_getD_getElem?,Array.getElem?_eq_none (by rw [x.sz];exact Nat.le_of_not_lt h2)];rfl
   rw [this];exact h0
theorem Pm.rev {p : Array Nat} {k i : Nat} (x : Pm N p k) (hi : i ≤ k) (hlo : ∀ a,i ≤ a -> a < k -> p.getD a 0 < k) : Pm N (kas_rev p i k) k := by
 refine ⟨by rw [kas_rev,mirror_size,x.sz],(mirror_perm _ _ _ _).trans x.pm,fun a h1 h2 => ?_,fun a ha => ?_,x.le⟩
 ·rw [rev_out (by rw [x.sz];exact x.le) (.inr h1)];exact x.id a h1 h2
 ·by_cases h : i ≤ a
  ·obtain ⟨j,e,h3,h4⟩ := flip h ha
   rw [rev_in (by rw [x.sz];exact x.le) h ha e];exact x.lo _ h4
  ·rw [rev_out (by rw [x.sz];exact x.le) (.inl (Nat.lt_of_not_le h))];exact x.lo _ ha
theorem KR.le {a b : Nat} (h : KR κ a b) : κ a ≤ κ b := h.elim Int.le_of_lt fun h => Int.le_of_eq h.1
theorem SS.mono {p : Array Nat} {k : Nat} (x : SS κ N p k) {i j : Nat} (hij : i ≤ j) (hj : j < k) : κ (p.getD i 0) ≤ κ (p.getD j 0) := by
 by_cases h : i = j
 ·rw [h];exact Int.le_refl _
 ·exact (x.so i j (Nat.lt_of_le_of_ne hij h) hj).le
theorem SS.next {p : Array Nat} {k : Nat} (x : SS κ N p k) (hk : 1 ≤ k) (hN : k < N) (h : κ (p.getD (k - 1) 0) ≤ κ (p.getD k 0)) : SS κ N p (k + 1) := by
 have ek := x.id k (Nat.le_refl _) hN
 refine ⟨⟨x.sz,x.pm,fun i h1 h2 => x.id i (Nat.le_of_succ_le h1) h2,fun i hi => ?_,hN⟩,fun i j hij hj => ?_⟩
 ·by_cases q : i = k
  ·rw [q,ek];exact Nat.lt_succ_self k
  ·exact Nat.lt_succ_of_lt (x.lo i (Nat.lt_of_le_of_ne (Nat.le_of_lt_succ hi) q))
 ·by_cases q : j = k
  ·subst q
   have h1 := x.mono (i := i) (j := j - 1) (Nat.le_sub_one_of_lt hij) (pre_lt hk)
   have h2 := x.lo i hij
   rw [ek] at h ⊢
   by_cases e : κ (p.getD i 0) = κ j
   ·exact .inr ⟨e,h2⟩
   ·exact .inl (Int.lt_iff_le_and_ne.mpr ⟨Int.le_trans h1 h,e⟩)
  ·exact x.so i j hij (Nat.lt_of_le_of_ne (Nat.le_of_lt_succ hj) q)
theorem Go.bind {c : Nat -> Nat -> Bool} {n : Nat} {α β : Type} {P : α -> Prop} {Q : β -> Prop} {f : α -> KasT β} : ∀ (t : KasT α),Go c n P t -> (∀ a,P a -> Go c n Q (f a)) -> Go c n Q (t.bind f)
 | .ret a,h,hf => hf a h
 | .ask i j k,h,hf => ⟨h.1,h.2.1,Go.bind (k (c i j)) h.2.2 hf⟩
theorem Go.mono {c : Nat -> Nat -> Bool} {n : Nat} {α : Type} {P Q : α -> Prop} : ∀ {t : KasT α},Go c n P t -> (∀ a,P a -> Q a) -> Go c n Q t
 | .ret a,h,hf => hf a h
 | .ask i j k,h,hf => ⟨h.1,h.2.1,Go.mono h.2.2 hf⟩
theorem Go.ite {c : Nat -> Nat -> Bool} {n : Nat} {α : Type} {P : α -> Prop} {i j : Nat} {a b : KasT α} (hi : i < n) (hj : j < n) (h1 : c i j = true -> Go c n P a) (h2 : c i j = false -> Go c n P b) : Go c n P (.ask i j fun q => if q = true then a else b) := by
 refine ⟨hi,hj,?_⟩
 cases h : c i j with
 | true => exact h1 h
 | false => exact h2 h
theorem go_asc {p : Array Nat} (h0 : 0 < N) : ∀ (f n : Nat),1 ≤ n -> n + f ≤ N -> SS κ N p n -> Go (KC κ) N (fun m => n ≤ m ∧ m ≤ n + f ∧ SS κ N p m ∧ (m < n + f -> κ (p.getD m 0) < κ (p.getD (m - 1) 0))) (kas_asc p f n)
 | 0,n,h1,h2,x => ⟨Nat.le_refl _,Nat.le_refl _,x,fun h => absurd h (Nat.lt_irrefl _)⟩
 | f + 1,n,h1,h2,x => by
  refine Go.ite (x.lt h0 _) (x.lt h0 _) (fun h => ?_) fun h => ?_
  ·exact ⟨Nat.le_refl _,Nat.le_add_right _ _,x,fun _ => of_decide_eq_true h⟩
  ·have h' := of_decide_eq_false h
   have en : n + 1 + f = n + (f + 1) := Nat.add_right_comm n 1 f
   have := go_asc h0 f (n + 1) (Nat.le_succ_of_le h1) (en ▸ h2) (x.next h1 (Nat.lt_of_lt_of_le (Nat.lt_add_of_pos_right (Nat.succ_pos f)) h2) (Int.not_lt.mp h'))
   refine (Go.mono this fun m z => ?_)
   exact ⟨Nat.le_of_succ_le z.1,en ▸ z.2.1,z.2.2.1,fun q => z.2.2.2 (en ▸ q)⟩
structure DB (κ : Nat -> Int) (N : Nat) (p : Array Nat) (n b : Nat) : Prop where
 bn : b < n
 nN : n ≤ N
 dd : DD κ N p b
 eq : ∀ i,b ≤ i -> i < n -> κ i = κ (n - 1)
 lt : ∀ i,i < b -> κ (n - 1) < κ (p.getD i 0)
noncomputable def DQ (κ : Nat -> Int) (N : Nat) (p : Array Nat) (n q : Nat) : Prop := ∃ b,b + (q + 1) = n ∧ DB κ N p n b
theorem DB.turn {p p' : Array Nat} {n b : Nat} (x : DB κ N p n b) (sz : p'.size = N) (pm : p'.Perm p) (h1 : ∀ i j,b ≤ i -> i < n -> i + j + 1 = b + n -> p'.getD i 0 = p.getD j 0) (h2 : ∀ i,i < b ∨ n ≤ i -> p'.getD i 0 = p.getD i 0) : DD κ N p' n ∧ (∀ i,i < n -> κ (n - 1) ≤ κ (p'.getD i 0)) ∧ ∀ i,n ≤ i -> p'.getD i 0 = p.getD i 0 := by
 have at_ : ∀ i,b ≤ i -> i < n -> ∃ j,i + j + 1 = b + n ∧ p'.getD i 0 = j ∧ j < n ∧ κ j = κ (n - 1) := fun i g1 g2 => by
  obtain ⟨j,e,g3,g4⟩ := flip g1 g2
  exact ⟨j,e,(h1 i j g1 g2 e).trans (x.dd.id j g3 (Nat.lt_of_lt_of_le g4 x.nN)),g4,x.eq j g3 g4⟩
 refine ⟨⟨⟨sz,pm.trans x.dd.pm,fun i g1 g2 => ?_,fun i hi => ?_,x.nN⟩,fun i j hij hj => ?_⟩,fun i hi => ?_,fun i hi => h2 i (.inr hi)⟩
 ·rw [h2 i (.inr g1)];exact x.dd.id i (Nat.le_trans (Nat.le_of_lt x.bn) g1) g2
 ·by_cases h : b ≤ i
  ·obtain ⟨j,_,e,g,_⟩ := at_ i h hi
   rw [e];exact g
  ·rw [h2 i (.inl (Nat.lt_of_not_le h))];exact Nat.lt_trans (x.dd.lo i (Nat.lt_of_not_le h)) x.bn
 ·by_cases h : b ≤ j
  ·obtain ⟨j',e1,e2,_,e3⟩ := at_ j h hj
   by_cases g : b ≤ i
   ·obtain ⟨i',e4,e5,_,e6⟩ := at_ i g (Nat.lt_trans hij hj)
    rw [e2,e5];exact .inr ⟨e3.trans e6.symm,flip_lt hij e4 e1⟩
   ·rw [e2,h2 i (.inl (Nat.lt_of_not_le g))];exact .inl (e3 ▸ x.lt i (Nat.lt_of_not_le g))
  ·have h := Nat.lt_of_not_le h
   rw [h2 j (.inl h),h2 i (.inl (Nat.lt_trans hij h))];exact x.dd.so i j hij h
 ·by_cases h : b ≤ i
  ·obtain ⟨j,_,e,_,g⟩ := at_ i h hi
   rw [e];exact Int.le_of_eq g.symm
  ·rw [h2 i (.inl (Nat.lt_of_not_le h))];exact Int.le_of_lt (x.lt i (Nat.lt_of_not_le h))
theorem DQ.turn {p : Array Nat} {n q : Nat} (x : DQ κ N p n q) {p' : Array Nat} (hp : p' = (if q > 0 then kas_rev p (n - (q + 1)) n else p)) : DD κ N p' n ∧ (∀ i,i < n -> κ (n - 1) ≤ κ (p'.getD i 0)) ∧ ∀ i,n ≤ i -> p'.getD i 0 = p.getD i 0 := by
 obtain ⟨b,hb,x⟩ := x
 rw [← hb,Nat.add_sub_cancel,hb] at hp
 subst hp
 have hs : n ≤ p.size := by rw [x.dd.sz];exact x.nN
 by_cases hq : q > 0
 ·rw [if_pos hq]
  exact x.turn (by rw [kas_rev,mirror_size,x.dd.sz]) (mirror_perm _ _ _ _) (fun i j g1 g2 e => rev_in hs g1 g2 e) fun i h => rev_out hs h
 ·rw [if_neg hq]
  refine x.turn x.dd.sz (.refl _) (fun i j g1 g2 e => ?_) fun _ _ => rfl
  have : i = j := by omega
  rw [this]
theorem DQ.all {p : Array Nat} {n q : Nat} (x : DQ κ N p n q) (h0 : 0 < N) (i : Nat) : p.getD i 0 < N := by
 obtain ⟨_,_,x⟩ := x
 exact x.dd.lt h0 i
theorem go_desc (h0 : 0 < N) : ∀ (f : Nat) (p : Array Nat) (n q : Nat),n + f ≤ N -> DQ κ N p n q -> Go (KC κ) N (fun r => DQ κ N r.1 r.2.1 r.2.2) (kas_desc f p n q)
 | 0,p,n,q,h2,x => x
 | f + 1,p,n,q,h2,x => by
  have hall := x.all h0
  have tn := x.turn rfl
  have x0 := x
  obtain ⟨b,hb,x⟩ := x
  have hN : n < N := Nat.lt_of_lt_of_le (Nat.lt_add_of_pos_right (Nat.succ_pos f)) h2
  have h3 : n + 1 + f ≤ N := (Nat.add_right_comm n 1 f) ▸ h2
  have en : p.getD n 0 = n := x.dd.id n (Nat.le_of_lt x.bn) hN
  have en1 : p.getD (n - 1) 0 = n - 1 := x.dd.id (n - 1) (Nat.le_sub_one_of_lt x.bn) (Nat.lt_of_le_of_lt (Nat.sub_le _ _) hN)
  refine Go.ite (hall _) (hall _) (fun h => ?_) fun h => ?_
  ·have h' := of_decide_eq_true h
   rw [en,en1] at h'
   obtain ⟨t1,t2,t3⟩ := tn
   have y : DQ κ N (if q > 0 then kas_rev p (n - (q + 1)) n else p) (n + 1) 0 :=
    ⟨n,rfl,Nat.lt_succ_self n,hN,t1,fun i h1 h3 => congrArg κ (Nat.le_antisymm (Nat.le_of_lt_succ h3) h1),fun i hi => Int.lt_of_lt_of_le h' (t2 i hi)⟩
   have go := go_desc h0 f _ (n + 1) 0 h3 y
   split
   ·rename_i hq
    rw [if_pos hq] at go;exact go
   ·rename_i hq
    rw [if_neg hq] at go;exact go
  ·have h' := of_decide_eq_false h
   rw [en,en1] at h'
   refine Go.ite (hall _) (hall _) (fun g => x0) fun g => ?_
   have g' := of_decide_eq_false g
   rw [en,en1] at g'
   have e := Int.le_antisymm (Int.not_lt.mp h') (Int.not_lt.mp g')
   refine go_desc h0 f p (n + 1) (q + 1) h3 ⟨b,congrArg Nat.succ hb,Nat.lt_succ_of_lt x.bn,hN,x.dd,fun i h1 h3 => ?_,fun i hi => ?_⟩
   ·show κ i = κ n
    by_cases c : i = n
    ·rw [c]
    ·exact (x.eq i h1 (Nat.lt_of_le_of_ne (Nat.le_of_lt_succ h3) c)).trans e
   ·show κ n < _
    rw [← e];exact x.lt i hi
theorem DD.back {p : Array Nat} {n : Nat} (x : DD κ N p n) : SS κ N (kas_rev p 0 n) n := by
 refine ⟨x.toPm.rev (Nat.zero_le _) fun a _ h => x.lo a h,fun i j hij hj => ?_⟩
 obtain ⟨i',e1,_,g1⟩ := flip (Nat.zero_le i) (Nat.lt_trans hij hj)
 obtain ⟨j',e2,_,_⟩ := flip (Nat.zero_le j) hj
 have hs : n ≤ p.size := by rw [x.sz];exact x.le
 rw [rev_in hs (Nat.zero_le _) (Nat.lt_trans hij hj) e1,rev_in hs (Nat.zero_le _) hj e2]
 exact x.so _ _ (flip_lt hij e1 e2) g1
theorem go_tail3 {p : Array Nat} {n : Nat} (h0 : 0 < N) (h1 : 1 ≤ n) (x : DD κ N p n) : Go (KC κ) N (fun r => 1 ≤ r.1 ∧ SS κ N r.2 r.1) (kas_tail3 n N p) := by
 unfold kas_tail3
 refine Go.bind _ (go_asc h0 (N - n) n h1 (Nat.le_of_eq (Nat.add_sub_of_le x.le)) x.back) fun m z => ?_
 exact ⟨Nat.le_trans h1 z.1,z.2.2.1⟩
theorem go_descPart {p : Array Nat} {n : Nat} (h0 : 0 < N) (hn : n < N) (hd : DD κ N p n) (hlt : ∀ i,i < n -> κ n < κ (p.getD i 0)) : Go (KC κ) N (fun r => 1 ≤ r.1 ∧ SS κ N r.2 r.1) (kas_descPart n N p) := by
 unfold kas_descPart
 have x : DQ κ N p (n + 1) 0 := ⟨n,rfl,Nat.lt_succ_self n,hn,hd,fun i h1 h2 => congrArg κ (Nat.le_antisymm (Nat.le_of_lt_succ h2) h1),hlt⟩
 refine Go.bind _ (go_desc h0 (N - (n + 1)) p (n + 1) 0 (Nat.le_of_eq (Nat.add_sub_of_le hn)) x) fun r z => ?_
 obtain ⟨t1,_,_⟩ := z.turn rfl
 have := go_tail3 h0 (by obtain ⟨b,e,_⟩ := z;rw [← e];exact Nat.le_add_left _ _) t1
 split
 ·rename_i hq;rw [if_pos hq] at this;exact this
 ·rename_i hq;rw [if_neg hq] at this;exact this
theorem go_count (h0 : 0 < N) : Go (KC κ) N (fun r => 1 ≤ r.1 ∧ SS κ N r.2 r.1) (kas_count N (List.toArray (List.range N))) := by
 revert κ N;intros κ N h0
 have hid : ∀ i,i < N -> (List.toArray (List.range N)).getD i 0 = i := fun i hi => by rw [Array.getD_eq_getD_getElem?];simp [hi]
 have pm : ∀ k,k ≤ N -> Pm N (List.toArray (List.range N)) k := fun k hk => ⟨by simp,.refl _,fun i _ h => hid i h,fun i hi => by rw [hid i (Nat.lt_of_lt_of_le hi hk)];exact hi,hk⟩
 have e1 : 1 + (N - 1) = N := Nat.add_sub_of_le h0
 unfold kas_count
 refine Go.bind _ (go_asc h0 (N - 1) 1 (Nat.le_refl _) (Nat.le_of_eq e1) ⟨pm 1 h0,fun i j hij hj => absurd (Nat.lt_of_lt_of_le hij (Nat.le_of_lt_succ hj)) (Nat.not_lt_zero i)⟩) ?_
 intros m z
 obtain @⟨z1,z2,z3,z4⟩ := z
 split
 ·exact ⟨z1,z3⟩
 ·rename_i hne
  have hm : m < N := Nat.lt_of_le_of_ne (e1 ▸ z2) fun q => hne (by simp [q])
  have hlt := z4 (by rw [e1];exact hm)
  have hm' : m - 1 < m := pre_lt z1
  rw [hid m hm,hid (m - 1) (Nat.lt_trans hm' hm)] at hlt
  split
  ·rename_i hm1
   refine Go.ite (z3.lt h0 _) (z3.lt h0 _) (fun h => ⟨z1,z3⟩) ?_
   intros h
   have h' := of_decide_eq_false h
   rw [hid 0 h0,hid (m - 1) (Nat.lt_trans hm' hm)] at h'
   have alike : ∀ i,i < m -> κ i = κ (m - 1) := fun i hi => by
    have a1 := z3.mono (i := 0) (j := i) (Nat.zero_le _) hi
    have a2 := z3.mono (i := i) (j := m - 1) (Nat.le_sub_one_of_lt hi) hm'
    rw [hid 0 h0,hid i (Nat.lt_trans hi hm)] at a1
    rw [hid i (Nat.lt_trans hi hm),hid (m - 1) (Nat.lt_trans hm' hm)] at a2
    exact Int.le_antisymm a2 (Int.le_trans (Int.not_lt.mp h') a1)
   have at_ : ∀ i,i < m -> ∃ j,i + j + 1 = 0 + m ∧ (kas_rev (List.toArray (List.range N)) 0 m).getD i 0 = j ∧ κ j = κ (m - 1) := fun i hi => by
    obtain ⟨j,e,_,g⟩ := flip (Nat.zero_le i) hi
    exact ⟨j,e,by rw [rev_in (by simpa using Nat.le_of_lt hm) (Nat.zero_le i) hi e,hid _ (Nat.lt_trans g hm)],alike j g⟩
   refine go_descPart h0 hm ⟨(pm m (Nat.le_of_lt hm)).rev (Nat.zero_le _) fun a _ h => by rw [hid a (Nat.lt_trans h hm)];exact h,fun i j hij hj => ?_⟩ fun i hi => ?_
   ·obtain ⟨j',e1,e2,e3⟩ := at_ j hj
    obtain ⟨i',e4,e5,e6⟩ := at_ i (Nat.lt_trans hij hj)
    rw [e2,e5];exact .inr ⟨e3.trans e6.symm,flip_lt hij e4 e1⟩
   ·obtain ⟨i',_,e5,e6⟩ := at_ i hi
    rw [e5,e6];exact hlt
  ·rename_i hm1
   have e : m = 1 := Nat.le_antisymm (Nat.le_of_not_lt hm1) z1
   subst e
   refine go_descPart h0 hm ⟨pm 1 h0,fun i j hij hj => absurd (Nat.lt_of_lt_of_le hij (Nat.le_of_lt_succ hj)) (Nat.not_lt_zero i)⟩ ?_
   intros i hi
   have : i = 0 := Nat.lt_one_iff.mp hi
   subst this
   rw [hid 0 h0];exact hlt
theorem go_place {p : Array Nat} {k : Nat} (h0 : 0 < N) (hk : k < N) (x : SS κ N p k) : ∀ (f l r : Nat),l ≤ r -> r ≤ k -> r - l ≤ f -> (∀ i,i < l -> κ (p.getD i 0) ≤ κ k) -> (∀ i,r ≤ i -> i < k -> κ k < κ (p.getD i 0)) ->
  Go (KC κ) N (fun l => l ≤ k ∧ (∀ i,i < l -> κ (p.getD i 0) ≤ κ k) ∧ ∀ i,l ≤ i -> i < k -> κ k < κ (p.getD i 0)) (kas_place p k f l r)
 | 0,l,r,h1,h2,h3,h4,h5 => ⟨Nat.le_trans h1 h2,h4,fun i hi => h5 i (Nat.le_trans (Nat.sub_eq_zero_iff_le.mp (Nat.le_zero.mp h3)) hi)⟩
 | f + 1,l,r,h1,h2,h3,h4,h5 => by
  unfold kas_place
  split
  ·rename_i h
   exact ⟨Nat.le_trans h1 h2,h4,fun i hi => h5 i (Nat.le_trans h hi)⟩
  ·rename_i hn
   have ek := x.id k (Nat.le_refl _) hk
   have m := mid_le (Nat.lt_of_not_le hn)
   refine Go.ite (x.lt h0 _) (x.lt h0 _) (fun h => ?_) fun h => ?_
   ·have h' := of_decide_eq_true h
    rw [ek] at h'
    refine go_place h0 hk x f l ((l + r) / 2) m.1 (Nat.le_trans (Nat.le_of_lt m.2) h2) (Nat.le_of_lt_succ (Nat.lt_of_lt_of_le (Nat.sub_lt_sub_right m.1 m.2) h3)) h4 fun i h6 h7 => ?_
    exact Int.lt_of_lt_of_le h' (x.mono h6 h7)
   ·have h' := of_decide_eq_false h
    rw [ek] at h'
    refine go_place h0 hk x f ((l + r) / 2 + 1) r m.2 h2 (Nat.le_trans (Nat.sub_le_sub_left (Nat.succ_le_succ m.1) r) (Nat.pred_le_pred h3)) (fun i h6 => ?_) h5
    exact Int.le_trans (x.mono (i := i) (j := (l + r) / 2) (Nat.le_of_lt_succ h6) (Nat.lt_of_lt_of_le m.2 h2)) (Int.not_lt.mp h')
theorem go_bin (h0 : 0 < N) : ∀ (f : Nat) (p : Array Nat) (k : Nat),k + f = N -> SS κ N p k -> Go (KC κ) N (fun p => SS κ N p N) (kas_bin f p k)
 | 0,p,k,h,x => (show k = N from h) ▸ x
 | f + 1,p,k,h,x => by
  unfold kas_bin
  have hk : k < N := h ▸ Nat.lt_add_of_pos_right (Nat.succ_pos f)
  have ek := x.id k (Nat.le_refl _) hk
  refine Go.bind _ (go_place h0 hk x k 0 k (Nat.zero_le _) (Nat.le_refl _) (Nat.sub_le _ _) (fun i hi => absurd hi (Nat.not_lt_zero _)) fun i h1 h2 => absurd h2 (Nat.not_lt.mpr h1)) fun l z => ?_
  obtain ⟨z1,z2,z3⟩ := z
  have hs : k < p.size := by rw [x.sz];exact hk
  have b0 : (bubble p k (k - l)).getD l 0 = k := by rw [bub_at hs z1,if_pos rfl,ek]
  have b1 : ∀ i,l ≤ i -> i < k -> (bubble p k (k - l)).getD (i + 1) 0 = p.getD i 0 := fun i g1 g2 => by rw [bub_at hs z1,if_neg (Nat.ne_of_gt (Nat.lt_succ_of_le g1)),if_pos ⟨Nat.lt_succ_of_le g1,Nat.succ_le_of_lt g2⟩];rfl
  have b2 : ∀ i,i < l ∨ k < i -> (bubble p k (k - l)).getD i 0 = p.getD i 0 := fun i g => by
   rw [bub_at hs z1,if_neg fun e => ?_,if_neg fun e => g.elim (Nat.lt_asymm e.1) (Nat.not_lt.mpr e.2)]
   subst e;exact g.elim (Nat.lt_irrefl _) (Nat.not_lt.mpr z1)
  refine go_bin h0 f _ (k + 1) ((Nat.add_right_comm k 1 f).trans h) ⟨⟨by rw [bubble_size,x.sz],(bubble_perm _ _ _).trans x.pm,fun i h1 h2 => ?_,fun i hi => ?_,hk⟩,fun i j hij hj => ?_⟩
  ·rw [b2 i (.inr h1)];exact x.id i (Nat.le_of_lt h1) h2
  ·rcases Nat.lt_trichotomy i l with q | q | q
   ·rw [b2 i (.inl q)];exact Nat.lt_succ_of_lt (x.lo i (Nat.lt_of_lt_of_le q z1))
   ·rw [q,b0];exact Nat.lt_succ_self k
   ·obtain ⟨c,rfl⟩ := Nat.exists_eq_succ_of_ne_zero (Nat.ne_zero_of_lt q)
    have hc := Nat.lt_of_succ_lt_succ hi
    rw [b1 c (Nat.le_of_lt_succ q) hc];exact Nat.lt_succ_of_lt (x.lo c hc)
  ·rcases Nat.lt_trichotomy j l with q | q | q
   ·rw [b2 j (.inl q),b2 i (.inl (Nat.lt_trans hij q))];exact x.so i j hij (Nat.lt_of_lt_of_le q z1)
   ·subst q
    rw [b0,b2 i (.inl hij)]
    have c2 := x.lo i (Nat.lt_of_lt_of_le hij z1)
    by_cases c3 : κ (p.getD i 0) = κ k
    ·exact .inr ⟨c3,c2⟩
    ·exact .inl (Int.lt_iff_le_and_ne.mpr ⟨z2 i hij,c3⟩)
   ·obtain ⟨c,rfl⟩ := Nat.exists_eq_succ_of_ne_zero (Nat.ne_zero_of_lt q)
    have hc := Nat.lt_of_succ_lt_succ hj
    rw [b1 c (Nat.le_of_lt_succ q) hc]
    rcases Nat.lt_trichotomy i l with r | r | r
    ·rw [b2 i (.inl r)];exact x.so i c (Nat.lt_of_lt_of_le r (Nat.le_of_lt_succ q)) hc
    ·rw [r,b0];exact .inl (z3 c (Nat.le_of_lt_succ q) hc)
    ·obtain ⟨d,rfl⟩ := Nat.exists_eq_succ_of_ne_zero (Nat.ne_zero_of_lt r)
     have hd := Nat.lt_of_succ_lt_succ hij
     rw [b1 d (Nat.le_of_lt_succ r) (Nat.lt_trans hd hc)];exact x.so d c hd hc
theorem go_sort (h0 : 0 < N) : Go (KC κ) N (fun p => SS κ N p N) (kas_sort N) := by
 unfold kas_sort
 refine Go.bind _ (go_count h0) fun r z => ?_
 obtain ⟨z1,z2⟩ := z
 have hm : max r.1 1 = r.1 := Nat.max_eq_left z1
 rw [hm]
 split
 ·exact go_bin h0 _ _ _ (Nat.add_sub_of_le z2.le) z2
 ·rename_i q
  exact Nat.le_antisymm z2.le (Nat.le_of_not_lt q) ▸ z2
end
end
section
section
variable {w : World} {hb : Heap} {A : Around} {K : Frag} {C N mem fI fL cell P' f : Addr} {pI pL : Arguments} {bI bL : List Stmt} {sI sL : Scope} {h : Heap} {g : Array GenState} {d : Drawn} {t : Nat} {os : OsState} {E : Value -> Shared -> Prop}
theorem listUpdD {a : Addr} {xs : Array Value} {n : Nat} {fn : Array Value -> Array Value} {Q : Unit -> Shared -> Prop} (ho : h.get? a = some (seqObj "list" xs n)) (h1 : xs.size ≤ 100) (h2 : (fn xs).size ≤ 100)
  (q : ∀ h' n',Heap.SameBut a h h' -> h'.get? a = some (seqObj "list" (fn xs) n') -> Q () ⟨h',g,d,t,os⟩) : wpAny (model PR w) A (Builtin.List.listUpdate (.ref a) fn) Q E ⟨h,g,d,t,os⟩ :=
 listUpdate_at (s := ⟨h,g,d,t,os⟩) ho rfl (q _ _ (Heap.SameBut.update h a _) (get?_update_seq ho fn)) (by rw [sizeLine_eq];omega) (by rw [sizeLine_eq];omega)
theorem newListD {xs : List Value} {Q : Value -> Shared -> Prop} (hz : xs.length ≤ 100) (q : ∀ h' a,(h.get? a = none ∧ h.objs.size ≤ a) -> (∀ b o,h.get? b = some o -> h'.get? b = some o) -> h'.get? a = some (seqObj "list" xs.toArray 0) -> Q (.ref a) ⟨h',g,d,t,os⟩) :
  wpAny (model PR w) A (newList xs) Q E ⟨h,g,d,t,os⟩ :=
 wpAny_newList (s := ⟨h,g,d,t,os⟩) (q _ _ ⟨Heap.get?_none_of_le (Nat.le_refl _),Nat.le_refl _⟩ (fun _ _ e => Heap.get?_push_of_some _ e) (Heap.get?_push_size _ rfl)) (by rw [sizeLine_eq];omega)
theorem newTupleD {xs : List Value} {Q : Value -> Shared -> Prop} (hz : xs.length ≤ 100) (q : ∀ h' a,h.get? a = none -> (∀ b o,h.get? b = some o -> h'.get? b = some o) -> Q (.ref a) ⟨h',g,d,t,os⟩) :
  wpAny (model PR w) A (newTuple xs) Q E ⟨h,g,d,t,os⟩ :=
 wpAny_newTuple (s := ⟨h,g,d,t,os⟩) (q _ _ (Heap.get?_none_of_le (Nat.le_refl _)) (fun _ _ e => Heap.get?_push_of_some _ e)) (by rw [sizeLine_eq];omega)
theorem sorted_K1 {l : Addr} {v : Value} {Q : Value -> Shared -> Prop} (SI : SpecInit pI bI sI) (k : KHere w hb h K C N mem fI fL cell P' pI pL bI bL sI sL f) (room : Room A 5) (hl : h.IsList l #[v])
  (q : ∀ D c s',h.get? D = none -> Ext [] ⟨h,g,d,t,os⟩ s' -> s'.heap.get? D = some (listOf #[v] c) -> Q (.ref D) s') :
  wpAny (model PR w) A (call (.builtin "sorted") [.ref l] [(ofString "key",.ref C)]) Q E ⟨h,g,d,t,os⟩ := by
 refine call_function_entry_kw kind_sorted plain_sorted entry_sorted (ksk_s1 _ _) ?_
 unfold Builtin.«sorted»
 refine wpAny_bind (m := checkCount "sorted" 1 1 _) (wpAny_pure ?_)
 refine wpAny_bind (collect_list hl ?_ (by rw [sizeLine_eq];simp))
 have keep : ∀ b o,h.get? b = some o -> ((h.push (seqObj "list" #[] 0)).update h.objs.size (Obj.mapSeq (· ++ #[v]))).get? b = some o := fun b o q => by
  have hlt : b < h.objs.size := Heap.lt_size q
  rw [Heap.get?_update_ne _ _ _ _ (Nat.ne_of_lt hlt),Heap.get?_push_ne _ _ _ (Nat.ne_of_lt hlt)]
  exact q
 have hsz : h.objs.size ≤ ((h.push (seqObj "list" #[] 0)).update h.objs.size (Obj.mapSeq (· ++ #[v]))).objs.size := by rw [Heap.size_update,size_push'];omega
 generalize ((h.push (seqObj "list" #[] 0)).update h.objs.size (Obj.mapSeq (· ++ #[v]))) = h1 at keep hsz
 show wpAny _ _ _ _ _ ⟨h1,g,d,t,os⟩
 refine wpAny_bind (newListD (by simp) fun h2 D ⟨fD,gD⟩ k2 hD => ?_)
 have kp2 : ∀ b o,h.get? b = some o -> h2.get? b = some o := fun b o e => k2 b o (keep b o e)
 have fD0 : h.get? D = none := by
  cases e : h.get? D with
  | none => rfl
  | some o => rw [keep _ _ e] at fD;cases fD
 refine wpAny_bind (wpAny_holding (wpAny_call_entry_kw slot_list_sort ⟨_,hD,rfl⟩ entry_list_sort ?_ (ksk_l1 _ _)))
 show wpAny _ _ (Builtin.«list.sort» ⟨[.ref D],[(ofString "key",.ref C)]⟩) _ _ _
 rw [ksk_t1]
 unfold ksk_tree
 refine wpAny_bind (listItems_at hD rfl ?_)
 refine wpAny_bind (listUpdD hD (by simp) (by simp) fun h3 n3 sb3 hD3 => ?_)
 refine wpAny_bind (seqEpoch_at hD3 rfl ?_)
 refine wpAny_bind (newTupleD (by simp) fun h4 tup ft k4 => ?_)
 have hD4 := k4 _ _ hD3
 refine wpAny_bind (newListD (by simp) fun h5 kS ⟨fk,_⟩ k5 hk5 => ?_)
 have hD5 := k5 _ _ hD4
 have hkD : kS ≠ D := fun q => by rw [q,hD4] at fk;cases fk
 have kp5 : ∀ b o,h.get? b = some o -> h5.get? b = some o := fun b o e => k5 b o (k4 b o (sb3.extBut b o (fun q => by rw [q,fD0] at e;cases e) (kp2 b o e)))
 have fk0 : h.get? kS = none := by
  cases e : h.get? kS with
  | none => rfl
  | some o =>
   have := k4 kS o (sb3.extBut kS o hkD (kp2 kS o e))
   rw [fk] at this;cases this
 refine wpAny_holding ?_
 unfold ksk_rest
 refine wpAny_bind (wpAny_rule ?_)
 rw [List.forIn_toArray,List.forIn_cons]
 have kz : hb.objs.size ≤ h5.objs.size := by
  have h1' : D < h5.objs.size := Heap.lt_size hD5
  exact Nat.le_trans k.sz (Nat.le_trans hsz (Nat.le_trans gD (Nat.le_of_lt h1')))
 have k5' : KHere w hb h5 K C N mem fI fL cell P' pI pL bI bL sI sL f := ⟨k.g,fun p hp => kp5 _ _ (k.X p hp),k.fr,k.fI.keeps kp5,k.fL.keeps kp5,isCell_move k.cell (kp5 _),fun b o e => kp5 b o (k.st b o e),kz⟩
 refine wpAny_bind (wpAny_bind (wpAny_bind (wpAny_attempt (wpAny_mono (make_KI (s := ⟨h5,g,d,t,os⟩) (A := A.in1.in1) (v := v) SI k5' ⟨room.hh,by have := room.dp;show A.depth + 4 ≤ 600;omega,by have := room.un;show A.units + 1 + 1 + 20 * 4 ≤ 6000;omega⟩) (fun r s6 z => ?_) fun _ _ z => z.elim))))
 obtain ⟨x,dx,rfl,e6,ins,fx,fdx,_⟩ := z
 obtain ⟨h6,g6,d6,t6,os6⟩ := s6
 have hos : os6 = os := e6.os
 subst hos
 dsimp only
 refine wpAny_bind (listUpdD (e6.all _ _ hk5) (by simp) (by simp) fun h7 n7 sb7 hk7 => ?_)
 refine wpAny_pure (wpAny_pure ?_)
 have hD7 := sb7.extBut _ _ (Ne.symm hkD) (e6.all _ _ hD5)
 refine wpAny_bind (listItems_at hk7 rfl ?_)
 unfold ksk_end
 have hn2 : (#[v] : Array Value).size < 2 := by simp
 rw [if_neg (by decide : ¬ (false = true))]
 dsimp only
 rw [if_pos hn2]
 refine wpAny_bind (wpAny_pure ?_)
 refine wpAny_bind (wpAny_pure ?_)
 unfold ksk_tail
 dsimp only
 refine wpAny_bind (listUpdD hk7 (by simp) (by simp) fun h8 n8 sb8 hk8 => ?_)
 have hD8 := sb8.extBut _ _ (Ne.symm hkD) hD7
 refine wpAny_bind (wpAny_letGo ?_)
 refine wpAny_bind (seqEpoch_at hD8 rfl ?_)
 refine wpAny_bind (listUpdD hD8 (by simp) (by show (Array.map _ ((#[].push (Value.ref x)).zip #[v])).size ≤ 100;simp) fun h9 n9 sb9 hD9 => ?_)
 simp only [bne_self_eq_false,Bool.false_eq_true,if_false]
 refine wpAny_pure ⟨_,rfl,wpAny_pure ⟨_,rfl,?_⟩⟩
 refine q D n9 _ fD0 ⟨fun b o _ e => ?_,rfl,e6.gens⟩ ?_
 ·have nD : b ≠ D := fun q => by rw [q,fD0] at e;cases e
  have nk : b ≠ kS := fun q => by rw [q,fk0] at e;cases e
  exact sb9.extBut b o nD (sb8.extBut b o nk (sb7.extBut b o nk (e6.all b o (kp5 b o e))))
 ·rw [if_neg (by decide : ¬ (false = true))] at hD9
  refine hD9.trans ?_
  show some (seqObj "list" (Array.map (·.2) (if false = true then ((#[].push (Value.ref x)).zip #[v]).reverse else (#[].push (Value.ref x)).zip #[v])) n9) = _
  rw [if_neg (by decide : ¬ (false = true))]
  simp
end
end
theorem filt_step {α : Type} (f : α -> Nat) (m : Nat) : ∀ (l : List α),l.Pairwise (fun a b => f a ≤ f b) -> l.filter (fun a => decide (f a < m + 1)) = l.filter (fun a => decide (f a < m)) ++ l.filter (fun a => f a == m)
 | [],_ => rfl
 | a :: l,h => by
  obtain ⟨h1,h2⟩ := List.pairwise_cons.mp h
  have ih := filt_step f m l h2
  by_cases c : f a < m
  ·rw [List.filter_cons_of_pos (by simpa using Nat.lt_succ_of_lt c),List.filter_cons_of_pos (by simpa using c),List.filter_cons_of_neg (by simp;omega),ih];rfl
  ·have none : l.filter (fun a => decide (f a < m)) = [] := List.filter_eq_nil_iff.mpr fun b hb => by
    have := h1 b hb
    simp;omega
   rw [none,List.nil_append] at ih
   rw [List.filter_cons_of_neg (by simpa using c) (p := fun a => decide (f a < m)),none,List.nil_append]
   by_cases c2 : f a = m
   ·rw [List.filter_cons_of_pos (by simp;omega),List.filter_cons_of_pos (by simpa using c2),ih]
   ·rw [List.filter_cons_of_neg (by simp;omega),List.filter_cons_of_neg (by simpa using c2),ih]
theorem filt_all {α : Type} (f : α -> Nat) (l : List α) (h : l.Pairwise (fun a b => f a ≤ f b)) : ∀ m,l.filter (fun a => decide (f a < m)) = (List.range m).flatMap fun k => l.filter fun a => f a == k
 | 0 => by simp
 | m + 1 => by rw [filt_step f m l h,filt_all f l h m,List.range_succ,List.flatMap_append];simp
noncomputable def sk (ns : List Int) : List Int := (List.range 16).flatMap fun (k : Nat) => ns.filter fun b => b / 4096 == Int.ofNat k
theorem asc_uniq {a b : List Nat} (p : a.Perm b) (x : a.Pairwise (· < ·)) (y : b.Pairwise (· < ·)) : a = b := by
 have h := lks_uniq (a := a.map Int.ofNat) (b := b.map Int.ofNat) (p.map _) (List.pairwise_map.mpr (x.imp fun h => Int.ofNat_le.mpr (Nat.le_of_lt h))) (List.pairwise_map.mpr (y.imp fun h => Int.ofNat_le.mpr (Nat.le_of_lt h)))
 exact (List.map_inj_right fun i j h => Int.ofNat.inj h).mp h
theorem ifmt_eq {b : Int} (h0 : 0 ≤ b) (h1 : b < 65536) : Builtin.bitAnd b 61440 = b / 4096 * 4096 := by
 revert b;intros b h0 h1
 obtain @⟨n,rfl⟩ := Int.eq_ofNat_of_zero_le h0
 have hn : n < 65536 := by omega
 have e1 : n &&& 61440 = n / 4096 * 4096 := by
  have e : n &&& 61440 = ((n >>> 12) &&& 15) <<< 12 := by
   apply Nat.eq_of_testBit_eq
   intros i
   rw [show (61440 : Nat) = 15 <<< 12 from rfl,Nat.testBit_and,Nat.testBit_shiftLeft,Nat.testBit_shiftLeft,Nat.testBit_and,Nat.testBit_shiftRight]
   by_cases h : 12 ≤ i
   ·rw [show 12 + (i - 12) = i by omega]
    simp [h]
   ·simp [h]
  rw [e,show (15 : Nat) = 2 ^ 4 - 1 from rfl,Nat.and_two_pow_sub_one_eq_mod,Nat.shiftRight_eq_div_pow,Nat.shiftLeft_eq]
  show n / 4096 % 16 * 4096 = _
  rw [Nat.mod_eq_of_lt (by omega)]
 unfold Builtin.bitAnd
 rw [decide_eq_true h0,show decide ((0 : Int) ≤ 61440) = true from rfl]
 show ((n &&& 61440 : Nat) : Int) = _
 rw [e1]
 omega
theorem sk_of {ns : List Int} {p : Array Nat} (hr : ∀ b ∈ ns,0 ≤ b ∧ b < 65536) (h : SS (fun i => Builtin.bitAnd (ns.getD i 0) 61440) ns.length p ns.length) : p.toList.map (fun i => ns.getD i 0) = sk ns := by
 have pm : p.toList.Perm (List.range ns.length) := by simpa using h.pm.toList
 have hin : ∀ i ∈ p.toList,i < ns.length := fun i hi => List.mem_range.mp (pm.mem_iff.mp hi)
 have hb : ∀ i,i < ns.length -> 0 ≤ ns.getD i 0 ∧ ns.getD i 0 < 65536 := fun i hi => hr _ (by simp [List.getD,hi])
 let f : Nat -> Nat := fun i => (ns.getD i 0 / 4096).toNat
 have fk : ∀ i,i < ns.length -> Builtin.bitAnd (ns.getD i 0) 61440 = (f i : Int) * 4096 := fun i hi => by
  rw [ifmt_eq (hb i hi).1 (hb i hi).2]
  have := (hb i hi).1
  show _ = ((ns.getD i 0 / 4096).toNat : Int) * 4096
  rw [Int.toNat_of_nonneg (Int.ediv_nonneg this (by decide))]
 have pw : p.toList.Pairwise (fun i j => f i < f j ∨ (f i = f j ∧ i < j)) := by
  rw [List.pairwise_iff_getElem]
  intro i j hi hj hij
  have hj' : j < p.size := by simpa using hj
  have hsz := h.sz
  have := h.so i j hij (by omega)
  rw [Array.getD_eq_getD_getElem?,Array.getD_eq_getD_getElem?,Array.getElem?_eq_getElem (by omega),Array.getElem?_eq_getElem (by omega)] at this
  simp only [Option.getD_some] at this
  rw [Array.getElem_toList,Array.getElem_toList]
  have a1 := fk p[i] (hin _ (by simp))
  have a2 := fk p[j] (hin _ (by simp))
  rcases this with q | ⟨q1,q2⟩
  ·have q' : Builtin.bitAnd (ns.getD p[i] 0) 61440 < Builtin.bitAnd (ns.getD p[j] 0) 61440 := q
   rw [a1,a2] at q'
   exact .inl (Int.ofNat_lt.mp (Int.lt_of_mul_lt_mul_right q' (by decide)))
  ·have q' : Builtin.bitAnd (ns.getD p[i] 0) 61440 = Builtin.bitAnd (ns.getD p[j] 0) 61440 := q1
   rw [a1,a2] at q'
   exact .inr ⟨Int.ofNat.inj (Int.eq_of_mul_eq_mul_right (by decide) q'),q2⟩
 have all16 : p.toList.filter (fun i => decide (f i < 16)) = p.toList := List.filter_eq_self.mpr fun i hi => by
  have := hb i (hin i hi)
  show decide ((ns.getD i 0 / 4096).toNat < 16) = true
  exact decide_eq_true (by omega)
 rw [← all16,filt_all f p.toList (pw.imp fun h => by omega) 16,List.map_flatMap]
 unfold sk
 congr 1
 funext k
 have e : p.toList.filter (fun a => f a == k) = (List.range ns.length).filter (fun a => f a == k) := by
  refine asc_uniq (pm.filter _) ?_ (List.Pairwise.filter _ List.pairwise_lt_range)
  have := pw.filter (fun a => f a == k)
  refine List.Pairwise.imp_of_mem ?_ this
  intro a b ha hb h
  have h1 := (List.mem_filter.mp ha).2
  have h2 := (List.mem_filter.mp hb).2
  have e1 : f a = k := by simpa using h1
  have e2 : f b = k := by simpa using h2
  exact h.elim (fun h => absurd (e1.trans e2.symm) (Nat.ne_of_lt h)) fun h => h.2
 rw [e]
 have hm : (List.range ns.length).map (fun i => ns.getD i 0) = ns := by
  refine List.ext_getElem (by simp) fun i h1 h2 => ?_
  simp [List.getD,h2]
 conv => rhs;rw [← hm]
 rw [List.filter_map]
 congr 1
 refine List.filter_congr fun i hi => ?_
 have := hb i (List.mem_range.mp hi)
 show ((ns.getD i 0 / 4096).toNat == k) = (ns.getD i 0 / 4096 == Int.ofNat k)
 have ek : Int.ofNat k = (k : Int) := rfl
 rw [Bool.eq_iff_iff,beq_iff_eq,beq_iff_eq]
 exact ⟨fun h => h ▸ (Int.toNat_of_nonneg (Int.ediv_nonneg this.1 (by decide))).symm,fun h => by rw [h];rfl⟩
section
section
variable {c : Cx} {I I' : Asr c.W} {ρ : List (Str × D)} {n : Nat} {s0 : Shared} {Q : Flow -> Shared -> Prop} {rest : List Stmt}
theorem Sta.same {m : Str -> Option Value} {s s' : Shared} (ok : c.Ok n) (F : Fr c.hb c.env.locals s.heap m) (hv : ∀ x d,ρ.lookup x = some d -> VarOk c.W c.env s.heap m x d)
  (cl : ∀ n a,(n,a) ∈ c.env.cells -> (∃ v,s.heap.IsCell a v) ∧ a ∉ c.W) (lo : c.env.locals ∉ c.W) (win : WIn c.W s.heap) (asr : I.P s.heap) (e : Ext [c.env.locals] s s') (hn : s'.heap.Ns c.env.locals m) : Sta c I ρ s' := by
 have ns := noSeq_ns F.ns
 have kk : ∀ b o,b ≠ c.env.locals -> s.heap.get? b = some o -> s'.heap.get? b = some o := fun b o nb eb => e.keep b o (fun q => nb (List.mem_singleton.mp q)) eb
 have rm : ∀ {d : D} {v : Value},Rel c.W s.heap d v -> Rel c.W s'.heap d v := fun x => x.move e.keep fun b q => .inr (by rw [List.mem_singleton.mp q];exact ns)
 refine ⟨⟨⟨m,⟨hn,fun b o eb => kk b o (fun q => ?_) (F.keep b o eb),F.above⟩,fun x d ex => ?_⟩,fun n a hm => ⟨let ⟨v,y⟩ := (cl n a hm).1;⟨v,isCell_move y fun o => kk a o (ok.env.off n a hm)⟩,(cl n a hm).2⟩,lo⟩,fun b hb => ?_,?_⟩
 ·exact absurd (Nat.lt_of_lt_of_le (Heap.lt_size eb) F.above) (by rw [q];exact Nat.lt_irrefl _)
 ·rcases hv x d ex with ⟨h1,v,h2,h3⟩ | ⟨h1,a,v,h2,h3,h4⟩
  ·exact .inl ⟨h1,v,h2,rm h3⟩
  ·exact .inr ⟨h1,a,v,h2,isCell_move h3 fun o => kk a o (ok.env.off _ a (mem_of_lookup h2)),rm h4⟩
 ·obtain ⟨o,eo⟩ := win b hb
  exact ⟨o,kk b o (fun q => lo (q ▸ hb)) eo⟩
 ·exact I.st [c.env.locals] _ _ e.keep (fun b q => by rw [List.mem_singleton.mp q];exact ⟨lo,ns⟩) asr
theorem rels_ints {W : List Addr} {h : Heap} : ∀ {ns : List Int} {vs : List Value},Rels W h (ns.map D.int) vs -> vs.length = ns.length ∧ ∀ i,i < vs.length -> ∃ t,vs.getD i .none = .int (ns.getD i 0) t
 | [],vs,x => by obtain rfl : _ = [] := x;exact ⟨rfl,fun i hi => (nomatch hi)⟩
 | a :: ns,vs,x => by
  obtain ⟨v,r,rfl,p,q⟩ := x
  obtain ⟨h1,h2⟩ := rels_ints q
  obtain ⟨t,rfl⟩ := rint p
  refine ⟨by simp [h1],fun i hi => ?_⟩
  cases i with
  | zero => exact ⟨t,rfl⟩
  | succ i => exact h2 i (by simpa using hi)
theorem ints_rels {W : List Addr} {h : Heap} : ∀ {ns : List Int} {vs : List Value},vs.length = ns.length -> (∀ i,i < vs.length -> ∃ t,vs.getD i .none = .int (ns.getD i 0) t) -> Rels W h (ns.map D.int) vs
 | [],vs,h1,_ => by unfold Rels;exact List.eq_nil_of_length_eq_zero h1
 | a :: ns,[],h1,_ => by cases h1
 | a :: ns,v :: vs,h1,h2 => by
  unfold Rels
  obtain ⟨t,e⟩ := h2 0 (by simp)
  exact ⟨v,vs,rfl,by unfold Rel;exact ⟨t,e⟩,ints_rels (by simpa using h1) fun i hi => h2 (i + 1) (by simpa using hi)⟩
theorem hkeep189 (P : Params) : keepIn (hd.heap_1 P) (.ref 189) = true := by k_is
theorem hkeep278 (P : Params) : keepIn (hd.heap_1 P) (.ref 278) = true := by k_is
theorem JS.sortK {x : Str} {fs fc fk e : Expr} {px p4 p5 p6 pos : Pos} {ns : List Int} (ok : c.Ok n) (hn : 8 ≤ n) (hU : 184 ∈ c.U) (hs : JE c I ρ fs (.val (.builtin "sorted"))) (hc : JE c I ρ fc (.val (.ref 189))) (hk : JE c I ρ fk (.val (.ref 278)))
  (he : JE c I ρ e (.lst (ns.map .int))) (h1 : 1 ≤ ns.length) (h64 : ns.length < 64) (hr : ∀ b ∈ ns,0 ≤ b ∧ b < 65536) (htab : ∀ h,I.P h -> h.get? 184 = some (tabObj #[]))
  (hI : ∀ h h',I.P h -> (∀ b o,b ≠ 184 -> h.get? b = some o -> h'.get? b = some o) -> (∃ ps,h'.get? 184 = some (tabObj ps)) -> I'.P h') (hx : StoOk c x)
  (k : JP c (Sto c I' s0 ((x,.lst ((sk ns).map .int)) :: ρ)) rest Q)
  (hsw : swapsWith (.Call fs [e] [⟨some (ofString "key"),.Call fc [fk] [] p4,p5⟩] p6) (some (.Name x px)) pos.line c.env = pure false := by rfl)
  (hq : eval (.Call fs [e] [⟨some (ofString "key"),.Call fc [fk] [] p4,p5⟩] p6) c.env = (do callWith p6 (← eval fs c.env) [] (backTo p6 (starEach [e] c.env)) (backToKw p6 (keywordEach [⟨some (ofString "key"),.Call fc [fk] [] p4,p5⟩] c.env))) := by rfl)
  (hq2 : eval (.Call fc [fk] [] p4) c.env = (do callWith p4 (← eval fc c.env) [] (backTo p4 (starEach [fk] c.env)) (backToKw p4 (keywordEach [] c.env))) := by rfl)
  (hq3 : backTo p6 (starEach [e] c.env) = (false,eval e c.env) :: backTo p6 (starEach [] c.env) := by rfl) (hq4 : starEach [fk] c.env = (false,eval fk c.env) :: starEach [] c.env := by rfl) (hq5 : starEach [e] c.env = (false,eval e c.env) :: starEach [] c.env := by rfl) :
  JP c (Sto c I s0 ρ) (.Assign [.Name x px] (.Call fs [e] [⟨some (ofString "key"),.Call fc [fk] [] p4,p5⟩] p6) pos :: rest) Q := JP.step fun s S => by
 obtain ⟨pI,pL,bI,bL,sI,sL,SC,SI,SL⟩ := cmp_parts
 refine wpAny_Assign_Name ?_ hsw
 rw [hq]
 refine wpAny_bind (fin (hs s S.sta) fun u s1 q => ?_)
 rw [rval q.2]
 have S1 := S.ext0 q.1
 refine PyProof.Rows.callWith_kw (fin (JEs.cons he JEs.nil hq5 p6 s1 S1.sta) fun vs s2 y => ?_) hq3 (by rw [hq3];rfl)
 have S2 := S1.ext0 y.1
 have hrel := y.2
 refine rels1 hrel ?_;clear hrel;intro v hrel
 refine kws_cons ?_
 rw [hq2]
 refine wpAny_bind (fin (hc s2 S2.sta) fun u s3 z => ?_)
 rw [rval z.2]
 have S3 := S2.ext0 z.1
 refine callWith_K (first := []) ok.gr.X (hkeep189 c.w.params) (fin (JEs.cons hk JEs.nil hq4 p4 s3 S3.sta) fun us s4 y' => ?_) hq4 rfl
 have S4 := S3.ext0 y'.1
 have hu := y'.2
 refine rels1 hu ?_;clear hu;intro u' hu
 refine ⟨S4.sta.kin ok,?_⟩
 rw [rval hu]
 have rm6 : Room c.A 6 := ⟨ok.room.hh,by have := ok.room.dp;omega,by have := ok.room.un;omega⟩
 have hb184 : c.hb.get? 184 = none := ok.uh 184 hU
 have hW184 : 184 ∈ c.W := ok.sub 184 hU
 refine fin (SC c.w c.hb c.A s4 (.ref 278) ok.gr hb184 rm6 S4.sta.stays.1 S4.sta.stays.2 (htab _ S4.sta.asr)) fun cv s5 zz => ?_
 obtain ⟨e5,C,N,cell,rfl,⟨ps',hp5,tp5⟩,hcell,hKN,hfr⟩ := zz
 have hrel5 : Rel c.W s5.heap (.lst (ns.map .int)) v := ((hrel.ext z.1).ext y'.1).move e5.keep fun b q => .inl (by rw [List.mem_singleton.mp q];exact hW184)
 have S5 : Sta c I' ρ s5 := S4.sta.upd ok e5 (fun b q => by rw [List.mem_singleton.mp q];exact hU) (fun b q => by rw [List.mem_singleton.mp q];exact ⟨_,hp5⟩) (hI _ _ S4.sta.asr (fun b o nb eb => e5.keep b o (fun q => nb (List.mem_singleton.mp q)) eb) ⟨_,hp5⟩)
 have E5 : Ext c.V s0 s5 := S4.ext.trans (e5.mono fun b q => by rw [List.mem_singleton.mp q];exact u_sub _ hU)
 refine kws_nil ?_
 have hNL : N ≠ c.env.locals := fun q => by
  obtain ⟨o,eo⟩ := S4.sta.loc.live c.env.locals (List.mem_cons_self ..)
  rw [q,eo] at hfr;cases hfr
 obtain ⟨⟨⟨m,F,hv⟩,cl,lo⟩,win,asr⟩ := id S5
 obtain ⟨K,mem,fI,fL,P',KX,KF,kfI,kfL⟩ := kfr_of hKN
 have kh : KHere c.w c.hb s5.heap K C N mem fI fL cell P' pI pL bI bL sI sL 278 := ⟨ok.gr,KX,KF,kfI,kfL,hcell,S5.stays.1,S5.stays.2⟩
 obtain ⟨l,vs,rfl,hlW,hl,hvs⟩ := hrel5
 obtain ⟨hlen,hget⟩ := rels_ints hvs
 have done : ∀ (out : List Value) D cc s6,s5.heap.get? D = none -> Ext [c.env.locals] s5 s6 -> s6.heap.Ns c.env.locals m -> s6.heap.get? D = some (listOf out.toArray cc) -> Rels c.W s6.heap ((sk ns).map .int) out ->
   wpAny c.M c.A (storeName c.env x (.ref D)) (fun _ => QN c rest Q .next) NoE s6 := by
  intro out D cc s6 hD e6 hns hl6 hr6
  have S6 : Sta c I' ρ s6 := Sta.same ok F hv cl lo win asr e6 hns
  have DW : D ∉ c.W := fun q => by
   obtain ⟨o,eo⟩ := win D q
   rw [hD] at eo;cases eo
  refine fin (store_var ok hx S6 (d := .lst ((sk ns).map .int)) (by unfold Rel;exact ⟨D,out,rfl,DW,⟨_,hl6,rfl,_,rfl⟩,hr6⟩)) fun _ s7 r7 => ?_
  exact k s7 ⟨(E5.trans (e6.mono fun b q => by rw [List.mem_singleton.mp q];exact fv_sub _ (List.mem_cons_self ..))).trans (r7.1.mono fv_sub),r7.2⟩
 show wpAny c.M c.A (call (.builtin "sorted") [.ref l] [(ofString "key",.ref C)]) _ _ _
 by_cases h2 : 2 ≤ vs.length
 ·have hgo : Go (fun i j => decide ((fun a b => Builtin.bitAnd a 61440 - Builtin.bitAnd b 61440) (ns.getD i 0) (ns.getD j 0) < 0)) vs.length (fun p => SS (fun i => Builtin.bitAnd (ns.getD i 0) 61440) vs.length p vs.length) (kas_sort vs.length) := by
   have e : (fun i j => decide ((fun a b => Builtin.bitAnd a 61440 - Builtin.bitAnd b 61440) (ns.getD i 0) (ns.getD j 0) < 0)) = KC (fun i => Builtin.bitAnd (ns.getD i 0) 61440) := by
    funext i j
    show decide (Builtin.bitAnd (ns.getD i 0) 61440 - Builtin.bitAnd (ns.getD j 0) 61440 < 0) = decide (Builtin.bitAnd (ns.getD i 0) 61440 < Builtin.bitAnd (ns.getD j 0) 61440)
    rw [Bool.eq_iff_iff,decide_eq_true_iff,decide_eq_true_iff]
    omega
   rw [e]
   exact go_sort (by omega)
  refine sorted_K (mm := 2) SI SL kh ⟨ok.room.hh,by have := ok.room.dp;omega,by have := ok.room.un;omega⟩ F.ns F.above hNL (hkeep278 _) spec_bykind hl hget h2 (by omega) hgo fun p D cc s6 hP hD e6 hns hl6 => ?_
  refine done (p.toList.map fun i => vs.getD i .none) D cc s6 hD e6 hns hl6 ?_
  rw [hlen] at hP
  rw [← sk_of hr hP]
  have hsz : p.size = ns.length := hP.sz
  refine ints_rels (by simp) fun i hi => ?_
  have hi' : i < p.size := by simpa using hi
  have hpi : p[i] < vs.length := by
   have := hP.toPm.lt h1 i
   rw [Array.getD_eq_getD_getElem?,Array.getElem?_eq_getElem hi'] at this
   rw [hlen];exact this
  obtain ⟨t,et⟩ := hget p[i] hpi
  refine ⟨t,?_⟩
  have a1 : (p.toList.map fun i => vs.getD i .none).getD i .none = vs.getD p[i] .none := by simp [List.getD,hi']
  have a2 : (p.toList.map fun i => ns.getD i 0).getD i 0 = ns.getD p[i] 0 := by simp [List.getD,hi']
  rw [a1,a2];exact et
 ·have hv1 : vs.length = 1 := by omega
  obtain ⟨v0,rfl⟩ := List.length_eq_one_iff.mp hv1
  have hn1 : ns.length = 1 := by rw [← hlen];rfl
  obtain ⟨a,rfl⟩ := List.length_eq_one_iff.mp hn1
  have hsk : sk [a] = [a] := by
   have := sk_of (ns := [a]) (p := #[0]) hr ⟨⟨rfl,.refl _,fun i h1 h2 => absurd h2 (Nat.not_lt.mpr h1),fun i hi => (by
    have : i = 0 := by simp at hi;omega
    subst this;exact Nat.zero_lt_one),Nat.le_refl _⟩,fun i j hij hj => (by simp at hj;omega)⟩
   simpa using this.symm
  obtain ⟨h5,g5,d5,t5,os5⟩ := s5
  refine sorted_K1 SI kh ⟨ok.room.hh,by have := ok.room.dp;omega,by have := ok.room.un;omega⟩ hl fun D cc s6 hD e6 hl6 => ?_
  refine done [v0] D cc s6 hD e6.nil (F.ns.keeps e6.all) hl6 ?_
  rw [hsk]
  exact hvs.ext e6
end
end
section
noncomputable def shP (P : Nat -> Value -> Prop) : Nat -> Value -> Prop
 | 0,_ => False
 | i + 1,v => P i v
noncomputable def shS (St : Nat -> Shared -> Prop) : Nat -> Shared -> Prop
 | 0,_ => False
 | i + 1,s => St i s
noncomputable def shV (start : Int) (val : Nat -> Int) : Nat -> Int
 | 0 => start
 | i + 1 => val i
theorem preSum_sh (start : Int) (val : Nat -> Int) : ∀ n,preSum (shV start val) (n + 1) = start + preSum val n
 | 0 => by show (0 : Int) + start = start + 0;omega
 | n + 1 => by
  have ih := preSum_sh start val n
  show preSum (shV start val) (n + 1) + val n = start + (preSum val n + val n)
  rw [ih];omega
section
variable {w : World} {A : Around} {I : Addr} {fp wr : List Addr} {G : Array GenState -> Array GenState -> Prop} {n : Nat} {P : Nat -> Value -> Prop} {St : Nat -> Shared -> Prop}
theorem shiftS (W : WalksS PR w A I fp wr G n P St) : WalksS PR w A I fp wr G (n + 1) (shP P) (shS St) where
 sub := W.sub
 grefl := W.grefl
 gtrans := W.gtrans
 frame := fun i s h' tk st ht hk => by
  cases i with
  | zero => exact st.elim
  | succ i => exact W.frame i s h' tk st ht hk
 item := fun i s Q E hi st hQ => by
  cases i with
  | zero => exact st.elim
  | succ i => exact W.item i s Q E (by omega) st fun v s' p st' m => hQ v s' p st' m
 done := fun s Q E st hQ => W.done s Q E st hQ
 self := fun i s Q E st hQ => by
  cases i with
  | zero => exact st.elim
  | succ i => exact W.self i s Q E st hQ
theorem args_sum2 (a b : Value) : argsOk "sum" ⟨[a,b],[]⟩ := by unfold argsOk;kernel_rfl
theorem call_sum2 {E : Value -> Shared -> Prop} {s : Shared} {x : Value} {start : Int} {tk : Tok} {Q : Value -> Shared -> Prop} (hs0 : 0 ≤ start) (hs1 : start < 100000)
  (h : wpAny (model PR w) A.in1 (pyIter x) (fun it s₂ => ∃ I fp wr G n P St val,it = .ref I ∧ WalksS PR w A.in1 I fp wr G n P St ∧ St 0 s₂ ∧ (∀ b ∈ fp,b < s₂.heap.objs.size) ∧ (∀ i v,P i v -> ∃ t,v = .int (val i) t) ∧
   ∀ s' t',Moved wr G s₂ s' -> Q (.int (start + preSum val n) t') s') E s) : wpAny (model PR w) A (call (.builtin "sum") [x,.int start tk]) Q E s := by
 revert w A E s x start tk Q;intros w A E s x start tk Q hs0 hs1 h
 refine call_function_tree F.kind_sum F.plain_sum F.entry_sum (args_sum2 _ _) ?_
 unfold Builtin.«sum»
 simp only [List.length_cons,List.length_nil]
 rw [if_neg (by decide)]
 refine wpAny_bind (wpAny_of_eq (show Builtin.Builtins.bindParams "sum" ["start"] 0 ⟨[.int start tk],[]⟩ = pure [some (.int start tk)] from rfl) ?_)
 refine wpAny_bind (wpAny_mono h ?_ fun _ _ e => e)
 intros it s₂ h₂
 obtain @⟨I,fp,wr,G,n,P,St,val,rfl,W,hst,hfp,hval,hQ⟩ := h₂
 dsimp only
 refine wp_ifp (by show (decide (-(2 ^ 63) ≤ start) && decide (start < 2 ^ 63)) = true;simp;omega) ?_
 refine wpAny_bind (wpAny_rule (wpAny_bind (wpAny_mkInt ?_)))
 refine wpAny_bind (wpAny_pure ?_)
 simp only [List.forIn_cons,List.forIn_nil]
 refine wpAny_bind (wpAny_bind (wpAny_bind (wpAny_isInstance (T := "int") (b := false) (typeIs_int _ _ _) PySem.sub_int_str ?_)))
 simp only [Bool.false_eq_true,if_false]
 refine wpAny_pure (wpAny_bind (wpAny_bind (wpAny_isInstance (T := "int") (b := false) (typeIs_int _ _ _) PySem.sub_int_bytes ?_)))
 simp only [Bool.false_eq_true,if_false]
 refine wpAny_pure (wpAny_bind (wpAny_bind (wpAny_isInstance (T := "int") (b := false) (typeIs_int _ _ _) PySem.sub_int_bytearray ?_)))
 simp only [Bool.false_eq_true,if_false]
 refine wpAny_pure (wpAny_pure ?_)
 refine wpAny_bind (wpAny_newObj_type ?_)
 have hSf : s₂.heap.objs.size ∉ fp := fun hm => Nat.lt_irrefl _ (hfp _ hm)
 have hval' : ∀ i v,shP P i v -> ∃ t,v = .int (shV start val i) t := fun i v p => by
  cases i with
  | zero => exact p.elim
  | succ i => exact hval i v p
 refine wpAny_pure ⟨plainId_quiet F.plain_sum_loop _,codeAny_sum_loopAnyS (shiftS W) (shV start val) hval' s₂.heap.objs.size hSf n 1 _ s₂.toks 0 0 (.inl rfl) (by omega) (by omega)
  (W.frame 0 s₂ _ _ hst (by first | exact Nat.le_refl _ | exact Nat.le_succ _ | omega) fun b _ o e => Heap.get?_push_of_some _ e) ?_ fun s' t' hm => ?_⟩
 ·have e1 : preSum (shV start val) 1 = start := by show (0 : Int) + start = start;omega
  rw [e1]
  exact Heap.get?_push_size _ rfl
 ·rw [preSum_sh]
  exact hQ s' t' (hm.drop_new (by first | exact Nat.le_refl _ | exact Nat.le_succ _ | omega))
end
end
section
noncomputable abbrev liObj (x : Addr) : Obj := { cls := .type "list_iterator",data := .fields #[.ref x,.int 0 0] }
theorem passing_all (n : Nat) : passing (fun _ => true) n 0 = List.range n := by
 unfold passing;simp
theorem pair_items {W : List Addr} {h : Heap} : ∀ {ps : List (Str × Str)} {vs : List Value},Rels W h (ps.map partD) vs ->
  ∃ (Ts : Nat -> Addr) (vals : Nat -> Array Value),∀ j,j < vs.length -> vs[j]? = some (.ref (Ts j)) ∧ h.IsTuple (Ts j) (vals j) ∧ ∃ u v t t',ps[j]? = some (u,v) ∧ vals j = #[.str u t,.str v t']
 | [],vs,x => by
  unfold List.map Rels at x
  subst x
  exact ⟨fun _ => 0,fun _ => #[],fun j hj => absurd hj (by simp)⟩
 | (u,v) :: ps,vs,x => by
  unfold List.map Rels at x
  obtain ⟨a,r,rfl,x1,x2⟩ := x
  obtain ⟨Ts,vals,H⟩ := pair_items x2
  unfold partD at x1
  obtain ⟨T,us,rfl,_,ht,hr⟩ := rtup x1
  revert ht;refine rels2 hr ?_;clear hr;intro b1 b2 y1 y2 ht
  obtain ⟨t,rfl⟩ := rstr y1
  obtain ⟨t',rfl⟩ := rstr y2
  refine ⟨fun j => match j with | 0 => T | j + 1 => Ts j,fun j => match j with | 0 => #[.str u t,.str v t'] | j + 1 => vals j,fun j hj => ?_⟩
  cases j with
  | zero => exact ⟨rfl,ht,u,v,t,t',rfl,rfl⟩
  | succ j => simpa using H j (by simpa using hj)
noncomputable def GenOut (w : World) (A : Around) (s0 : Shared) (g : Addr) (n : Nat) (F : Nat -> Value -> Prop) (s : Shared) : Prop :=
 ∃ fp wr gi St,WalksS PR w A.in4 g fp wr (GenOnlyQ gi) n F St ∧ St 0 s ∧ (∀ i s',St i s' -> s'.TypeIs (.ref g) "generator") ∧ g ∈ fp ∧ (∀ b ∈ fp,b < s.heap.objs.size) ∧ ∀ b ∈ wr,s0.heap.get? b = none
structure GEnv (w : World) (hb : Heap) (cenv : Env) (h : Heap) (m : Str -> Option Value) : Prop where
 gr : Gr w hb
 st : hb.StaysIn h
 ns : h.Ns cenv.locals m
 kind : cenv.scope.kind = .function
 gl : cenv.globals = mainGlobals
 bi : cenv.builtins = builtinsNs
theorem walks_mono {w : World} {A : Around} {I : Addr} {fp wr : List Addr} {G : Array GenState -> Array GenState -> Prop} {n : Nat} {P P' : Nat -> Value -> Prop} {St : Nat -> Shared -> Prop} (W : WalksS PR w A I fp wr G n P St) (h : ∀ i v,i < n -> P i v -> P' i v) : WalksS PR w A I fp wr G n P' St where
 sub := W.sub
 grefl := W.grefl
 gtrans := W.gtrans
 frame := W.frame
 item := fun i s Q E hi st hQ => W.item i s Q E hi st fun v s' p st' m => hQ v s' (h i v hi p) st' m
 done := W.done
 self := W.self
section
variable {c : Cx} {I : Asr c.W} {ρ : List (Str × D)} {n : Nat} {x dx P cc : Addr} {parts : List (Str × Str)} {elt iter : Expr} {xa xb : Str} {pa pb pt : Pos} {kt : Nat} {scope : Scope} {pos : Pos}
theorem genA {F : Nat -> Value -> Prop} {s : Shared} (ok : c.Ok (n + 1)) (S : Sta c I ρ s) (hit : ∀ (Q : Value -> Shared -> Prop),Q (.ref x) s -> wpAny c.M c.A (eval iter c.env) Q NoE s) (hL : HasL I x dx (parts.map partD)) (hP : ∀ h,I.P h -> TabP h P) (hPU : P ∈ c.U) (hxP : x ≠ P)
  (hn2 : NoSeq s.heap P)
  (up : ∀ h h' ps,I.P h -> Heap.ExtBut P h h' -> h'.get? P = some (tabObj ps) -> TriplesOk ps.toList -> I.P h')
  (hcd : c.env.code = .ref cc) (hhd : codeHdIn (hd.heap_1 c.w.params) cc P = true)
  (hclos : closureFor scope c.env = pure []) (hcell : ∀ y ∈ scope.names,y.2 ≠ .cell) (h0 : scope.names.lookup (".0" : Str) = some NameKind.local) (hxa : scope.names.lookup xa = some .local) (hxb : scope.names.lookup xb = some .local) (hab : xa ≠ xb) (hkind : scope.kind = .function) (hco : scope.isCoroutine = false)
  (hq : ∀ (A' : Around) E' (cenv : Env) (i : Nat) u v t t' (s₂ : Shared) m₂,cenv.scope = scope -> GEnv c.w c.hb cenv s₂.heap m₂ -> parts[i]? = some (u,v) -> m₂ xa = some (.str u t) -> m₂ xb = some (.str v t') ->
   wpAny c.M A' (eval elt cenv) (fun y s₃ => F i y ∧ Keeps s₂ s₃) E' s₂)
  (hs : ∀ x,genFold iter c.env x = pure x := by intro _;with_unfolding_all rfl) :
  wpAny c.M c.A (eval (.GeneratorExp elt [⟨.Tuple [.Name xa pa,.Name xb pb] kt pt,iter,[],0⟩] scope pos) c.env) (fun v s' => ∃ g,v = .ref g ∧ Ext [P] s s' ∧ Sta c I ρ s' ∧ GenOut c.w c.A s g parts.length F s') NoE s := by
 have hh : c.A.handled = none := ok.room.hh
 obtain ⟨p,loose,mg,mb,T⟩ := ok.gr.T
 refine wpAny_GeneratorExp_walksQTD hh hco hclos hcell h0 hxa hxb hab hkind (by have := ok.room.dp;simp only [recursionLimit];omega) (hit _ ?_) hs
 obtain ⟨vs,m,od,J,hR⟩ := hL _ S.asr
 obtain ⟨h,g,d,t,os⟩ := s
 refine iterA (S.kin ok) J ?_
 have e2 : Ext [] (⟨h,g,d,t,os⟩ : Shared) ⟨h.push (liObj x),g,d,t,os⟩ := Ext.push
 have S2 := S.ext e2
 have hlim : ∀ {s' : Shared},Sta c I ρ s' -> s'.heap.NoLimit := fun S' => T.nolimit.keeps S'.stays.1
 refine ⟨hlim S2,?_⟩
 have fin2 : ∀ (code : Value) (h3 : Heap) (tk : Nat),Heap.ExtBut P h h3 -> h3.get? h.objs.size = some (liObj x) -> h.objs.size < h3.objs.size -> Sta c I ρ ⟨h3,g,d,tk,os⟩ ->
   wpAny c.M c.A (builtinsFor c.env.globals c.env.builtins) (fun bi s₄ =>
    ∃ J fp wr n₀ Pt St₀ Mid pz F',Value.ref h.objs.size = .ref J ∧ (∀ A' : Around,A'.handled = none -> WalksU PR c.w A' J fp wr n₀ Pt St₀ Mid) ∧ (∀ i vals,Pt i vals -> ∃ va vb,vals = #[va,vb]) ∧ St₀ 0 s₄.heap ∧ (∀ b ∈ fp,b < s₄.heap.objs.size) ∧ s₄.heap.NoLimit ∧ cStatics ∉ wr ∧
     (∀ href : Heap,(∀ b o,s₄.heap.get? b = some o -> href.get? b = some o) ->
      QuietGenTD PR c.w (genEnv scope [] s₄.heap.objs.size code bi c.env) xa xb [] elt (List.range s₄.heap.objs.size) wr Pt pz F' href (c.A.depth + 1) (c.A.units + 8)) ∧
     (∀ a h₅ tk gs,gs.bare = true -> s₄.heap.objs.size < a -> h₅.objs.size = a + 1 -> (∀ b o,s₄.heap.get? b = some o -> h₅.get? b = some o) ->
      WalksS PR c.w c.A.in4 a (a :: s₄.heap.objs.size :: List.range s₄.heap.objs.size) (s₄.heap.objs.size :: wr) (GenOnlyQ s₄.gens.size) (passing pz n₀ 0).length
       (fun j y => ∃ i,(passing pz n₀ 0)[j]? = some i ∧ F' i y) (GenAt PR c.w c.A.in4 a s₄.gens.size s₄.heap.objs.size (List.range s₄.heap.objs.size) wr pz n₀ F') ->
      GenAt PR c.w c.A.in4 a s₄.gens.size s₄.heap.objs.size (List.range s₄.heap.objs.size) wr pz n₀ F' 0 { s₄ with gens := s₄.gens.push gs,toks := tk,heap := h₅ } ->
      (∃ g',Value.ref a = Value.ref g' ∧ Ext [P] (⟨h,g,d,t,os⟩ : Shared) ⟨h₅,s₄.gens.push gs,s₄.drawn,tk,s₄.os⟩ ∧ Sta c I ρ ⟨h₅,s₄.gens.push gs,s₄.drawn,tk,s₄.os⟩ ∧ GenOut c.w c.A ⟨h,g,d,t,os⟩ g' parts.length F ⟨h₅,s₄.gens.push gs,s₄.drawn,tk,s₄.os⟩))) NoE ⟨h3,g,d,tk,os⟩ := by
  intro code h3 tk hx hI3 hsz3 S3
  obtain ⟨ob,hob,hcls,hdict,hdata⟩ := ok.gr.B
  rw [ok.env.gl,ok.env.bi]
  refine wpAny_builtinsFor (bm := 4) (T.g.keeps S3.stays.1) ?hb4 (by decide) (S3.stays.1 _ _ hob) hcls hdict hdata ?_
  case hb4 => exact mg_of ok.gr.X T.g (show nsIn (hd.heap_1 c.w.params) mainGlobals (ofString "__builtins__") = some (some (.ref 4)) by k_is)
  obtain ⟨Ts,vals,H⟩ := pair_items hR
  have hTne : ∀ j,j < vs.length -> Ts j ≠ h.objs.size := fun j hj q => by
   obtain ⟨o,eo,_⟩ := (H j hj).2.1
   exact absurd (Heap.lt_size eo) (by rw [q];exact Nat.lt_irrefl _)
  have hTP : ∀ j,j < vs.length -> Ts j ≠ P := fun j hj q => by
   obtain ⟨o,eo,_,n',hd'⟩ := (H j hj).2.1
   exact hn2 o (q ▸ eo) _ _ hd'
  have hxI : x ≠ h.objs.size := fun q => absurd (Heap.lt_size J.at_) (by rw [q];exact Nat.lt_irrefl _)
  have hlen : vs.length = parts.length := by have := hR.length;simpa using this
  refine ⟨h.objs.size,_,_,_,_,_,_,(fun _ => true),F,rfl,fun A' hA => walksA hA h.objs.size x hxI vs.toArray Ts vals (fun j hj => by have := (H j (by simpa using hj)).1;simpa using this) (fun j hj => hTne j (by simpa using hj)),?_,?_,?_,hlim S3,?_,?_,?_⟩
  ·intro i vals' ⟨hi,e⟩
   obtain ⟨_,_,u,v,t1,t2,_,e2⟩ := H i (by simpa using hi)
   exact ⟨_,_,e.trans e2⟩
  ·have k3 : ∀ b o,b ≠ P -> h.get? b = some o -> h3.get? b = some o := fun b o hb e => hx b o hb e
   refine ⟨⟨_,hI3,rfl,rfl⟩,⟨_,_,k3 _ _ hxP J.at_,rfl⟩,fun k hk => ?_⟩
   obtain ⟨o,eo,r⟩ := (H k (by simpa using hk)).2.1
   exact ⟨o,k3 _ _ (hTP k (by simpa using hk)) eo,r⟩
  ·intro b hb
   have hx3 : ∀ b o,b ≠ P -> h.get? b = some o -> b < h3.objs.size := fun b o hb e => Heap.lt_size (hx b o hb e)
   rcases List.mem_cons.mp hb with rfl | hb
   ·exact hsz3
   ·rcases List.mem_cons.mp hb with rfl | hb
    ·exact hx3 _ _ hxP J.at_
    ·obtain ⟨k,hk,rfl⟩ := List.mem_map.mp hb
     have hk' := List.mem_range.mp hk
     obtain ⟨o,eo,r⟩ := (H k (by simpa using hk')).2.1
     exact hx3 _ _ (hTP k (by simpa using hk')) eo
  ·intro q
   have q' := List.mem_singleton.mp q
   obtain ⟨mc,hns,_⟩ := hlim S
   exact absurd hns.lt (by rw [q'];exact Nat.lt_irrefl _)
  ·intro href hk
   refine ⟨fun A' E' i va vb s₂ m₂ _ _ _ _ _ _ _ _ => wpAny_pure ⟨rfl,_,_,rfl,fun _ _ e => e⟩,fun A' E' i va vb s₂ m₂ hA hdp hun hPt _ hns ha hb hkp => ?_⟩
   obtain ⟨hi,e⟩ := hPt
   obtain ⟨_,_,u,v,t1,t2,hp,e2⟩ := H i (by simpa using hi)
   rw [e2] at e
   have e3 : va = .str u t1 ∧ vb = .str v t2 := by simpa using e
   refine hq A' E' _ i u v t1 t2 s₂ m₂ rfl ⟨ok.gr,fun b o eb => ?_,hns,hkind,ok.env.gl,rfl⟩ hp (e3.1 ▸ ha) (e3.2 ▸ hb)
   have e3 : h3.get? b = some o := S3.stays.1 b o eb
   refine hkp b (List.mem_range.mpr (Heap.lt_size e3)) (fun q => ?_) o (hk b o e3)
   have q' := List.mem_singleton.mp q
   have := S.stays.2
   exact absurd (Heap.lt_size eb) (by rw [q'];exact Nat.not_lt.mpr this)
  ·intro a h5 tk5 gs hgb hag hsz5 hk5 W hat
   have e5 : Ext [P] (⟨h,g,d,t,os⟩ : Shared) ⟨h5,g.push gs,d,tk5,os⟩ := ⟨fun b o nb eb => hk5 b o (hx b o (fun q => nb (List.mem_singleton.mpr q)) eb),rfl,fun z => z.push hgb⟩
   have e35 : Ext [] (⟨h3,g,d,tk,os⟩ : Shared) ⟨h5,g.push gs,d,tk5,os⟩ := ⟨fun b o _ eb => hk5 b o eb,rfl,fun z => z.push hgb⟩
   refine ⟨a,rfl,e5,S3.ext e35,?_⟩
   have hl : (passing (fun _ => true) vs.toArray.size 0).length = parts.length := by rw [passing_all];simp [hlen]
   rw [hl] at W
   refine ⟨_,_,_,_,walks_mono W (fun i v hi hv => ?_),hat,(fun i s' st => st.1.typeIs),List.mem_cons_self,?_,?_⟩
   ·obtain ⟨j,e1,e2⟩ := hv
    rw [passing_all,List.getElem?_range (by simp [hlen];exact hi)] at e1
    cases e1;exact e2
   ·intro b hb
    show b < h5.objs.size
    rw [hsz5]
    rcases List.mem_cons.mp hb with rfl | hb
    ·exact Nat.lt_succ_self _
    ·rcases List.mem_cons.mp hb with rfl | hb
     ·exact Nat.lt_succ_of_lt hag
     ·exact Nat.lt_succ_of_lt (Nat.lt_trans (List.mem_range.mp hb) hag)
   ·intro b hb
    rcases List.mem_cons.mp hb with rfl | hb
    ·exact Heap.get?_none_of_le (Nat.le_of_lt hsz3)
    ·rw [List.mem_singleton.mp hb];exact Heap.get?_none_of_le (Nat.le_refl _)
 obtain ⟨ps,hps,htr⟩ := hP _ S2.asr
 have hPh : h.objs.size ≠ P := fun q => by
  obtain ⟨ps,hps,_⟩ := hP _ S.asr
  exact absurd (Heap.lt_size hps) (by rw [q];exact Nat.lt_irrefl _)
 have C2 := codeHd_of_K (S2.kin ok) hhd
 have hpush : ∀ b o,h.get? b = some o -> (h.push (liObj x)).get? b = some o := fun b o e => Heap.get?_push_of_some _ e
 cases hf : codeAmong pos ps.toList with
 | some c' => exact wpAny_genexprCode_hit hcd (C2.code hps htr) hf (fin2 c' _ t (fun b o _ e => hpush b o e) (Heap.get?_push_size _ rfl) (by rw [Heap.size_push];exact Nat.lt_succ_self _) S2)
 | none =>
  refine wpAny_genexprCodeX hcd (C2.code hps htr) (C2.tab hps) hf fun c' h' tk hx1 hc1 hc2 hcode _ htab _ => ?_
  have ex : Ext [P] (⟨h.push (liObj x),g,d,t,os⟩ : Shared) ⟨h',g,d,tk,os⟩ := ⟨fun b o nb e => hx1 b o (fun q => nb (List.mem_singleton.mpr q)) e,rfl,fun z => z⟩
  obtain ⟨_,_,_,_,_,_,_,_,_,op,_,_,_,_,_,_,_,_,_,htr',_⟩ := id hcode
  refine fin2 (.ref c') h' tk (fun b o hb e => hx1 b o hb (hpush b o e)) (hx1 _ _ hPh (Heap.get?_push_size _ rfl)) (Nat.lt_of_lt_of_le (by rw [Heap.size_push];exact Nat.lt_succ_self _) (Nat.le_trans hc1 (Nat.le_of_lt hc2))) ?_
  exact S2.upd ok ex (fun b q => by rw [List.mem_singleton.mp q];exact hPU) (fun b q => by rw [List.mem_singleton.mp q];exact ⟨_,htab.2⟩) (up _ _ _ S2.asr hx1 htab.2 htr')
end
end
theorem OL178 (P : Params) : OverList (hd.heap_1 P) 178 := ⟨by k_is,by k_is,by k_is,by k_is⟩
theorem fI_acc {a : FA} {σ : FS} : ∀ h,fP a σ h -> ∃ dat,(∀ cd,dat ≠ .cls cd) ∧ InstD (fW a) h a.A a.dA 178 dat [(ofString "_initial_size",.int σ.init)] 1 := fun h ⟨⟨vs,m,_,_,c⟩,_⟩ => ⟨_,(fun cd q => by cases q),c⟩
theorem fI_for {a : FA} {σ : FS} : ∀ h,fP a σ h -> ∃ dat,(∀ cd,dat ≠ .cls cd) ∧ InstD (fW a) h a.F a.dF 94 dat [(ofString "_current_line",.val (.ref a.A)),(ofString "_lines",.val (.ref a.L)),(ofString "_splitchars",.str a.liked),(ofString "_continuation_ws_len",.int 1),(ofString "_continuation_ws",.str (ofString " ")),(ofString "_maxlen",.int a.maxlen)] 6 :=
 fun h ⟨_,x,_⟩ => ⟨_,(fun cd q => by cases q),x⟩
theorem fP_acc {a : FA} (ha : a.Ok) {σ : FS} {h h' : Heap} {V : List Addr} {parts : List (Str × Str)} {init : Int} (x : fP a σ h) (k : ∀ b o,b ∉ V -> h.get? b = some o -> h'.get? b = some o) (hV : ∀ b ∈ V,b = a.A ∨ b = a.dA) (y : AccP (fW a) a.A a.dA parts init h') :
  fP a { σ with parts := parts,init := init } h' := by
 revert a σ h h' V parts init;intros a ha σ h h' V parts init x k hV y
 obtain @⟨_,x2,x3,x4,x5⟩ := x
 have hv : ∀ b ∈ V,b ∈ fW a ∨ NoSeq h b := fun b q => .inl (by rcases hV b q with rfl | rfl <;> simp)
 have nd := ha.nd
 simp only [List.nodup_cons,List.mem_cons,not_or] at nd
 have off : ∀ p,p ≠ a.A -> p ≠ a.dA -> p ∉ V := fun p h1 h2 q => by rcases hV p q with z | z <;> simp_all
 obtain @⟨⟨_,_,f3,f4,_,_,_⟩,⟨_,g2,g3,_,_,_⟩,⟨l1,l2,_,_,_⟩,⟨_,p1,p2,_⟩,⟨q1,q2,_⟩,_⟩ := nd
 exact ⟨y,InstD.move x2 (off _ f3 f4) (off _ g2 g3) hv k,x3.move k hv (off _ l1 l2),x4.move k (off _ (Ne.symm p1) (Ne.symm q1)),x5.move k (off _ (Ne.symm p2) (Ne.symm q2))⟩
theorem RQX.next {c : Cx} {I I' : Asr c.W} {ρ : List (Str × D)} {s0 s : Shared} (S : Sto c I s0 ρ s) (h : I.P s.heap -> I'.P s.heap) : RQX c s0 .non I' .next s := ⟨.none,.inr ⟨rfl,rfl⟩,S.ext,mnon,S.sta.win,h S.sta.asr⟩
theorem RQX.ret {c : Cx} {I I' : Asr c.W} {ρ : List (Str × D)} {s0 s : Shared} {d : D} {v : Value} (S : Sto c I s0 ρ s) (r : Rel c.W s.heap d v) (h : I.P s.heap -> I'.P s.heap) : RQX c s0 d I' (.ret v) s := ⟨v,.inl rfl,S.ext,r,S.sta.win,h S.sta.asr⟩
noncomputable def FS.push (σ : FS) (p : Str × Str) : FS := { σ with parts := σ.parts ++ [p] }
theorem spec_push {w : World} {hb : Heap} {a : FA} {σ : FS} (g : Amb w hb (fW a) (fW a)) (ha : a.Ok) (x y : Str) (hz : σ.parts.length ≤ 1000) :
  SpecX w hb (fW a) (fW a) 1 122 (fI a σ) [.val (.ref a.A),.str x,.str y] .non (fI a (σ.push (x,y))) := by
 revert w hb a σ x y;intros w hb a σ g ha x y hz
 intros A s vs room hst hsz hW hI hR
 refine rels3 hR ?_;clear hR;intros v1 v2 v3;intro r1 r2 r3
 refine' spec_enterX (I := fI a σ) (ρ := [(ofString "string",.str y),(ofString "fws",.str x),(ofString "self",.val (.ref a.A))]) (binds := [(ofString "self",v1),(ofString "fws",v2),(ofString "string",v3)]) g room hst hsz hW hI ?ho ?hcd ?hbind ⟨rfl,r3,rfl,r2,rfl,r1,trivial⟩ ?hkind ?hnd ?h ?hco ?hgen ?hk
 case ho => k_is
 case hcd => k_is
 case hbind => rfl
 case hkind => rfl
 case hnd => decide
 case hco => rfl
 case hgen => rfl
 case hk => rfl
 intros A' env s0 L hE ok
 have hE' : (Cx.mk w hb (fW a) (fW a) A' env).env = _ := hE
 refine' JS.xex (c := Cx.mk w hb (fW a) (fW a) A' env) (I := fI a σ) (I' := fI a (σ.push (x,y))) (XE.appendL (x := a.A) (dx := a.dA) (C := 178) (d := partD (x,y)) ok ?u1 ?u2 fI_acc ?u3 (OL178 _) ?u4 ?u5 ?u6 ?u7 ?u8) ?k ok
 case u1 => simp
 case u2 => exact JE.var ok rfl
 case u3 => rfl
 case u4 => k_is
 case u5 => k_is
 case u6 => unfold partD;exact JE.tup (JEs.cons (JE.var ok rfl) (JEs.cons (JE.var ok rfl) JEs.nil))
 case u7 => exact fun h ⟨⟨vs,m,e,r,_⟩,_⟩ => ⟨_,m,e,by have := r.length;simp at this ⊢;omega⟩
 case u8 =>
  intros h h' its m v hP sb e e' r
  have kp : ∀ b o,b ∉ [a.A] -> h.get? b = some o -> h'.get? b = some o := fun b o nb eb => sb.extBut b o (fun q => nb (q ▸ List.mem_singleton.mpr rfl)) eb
  have hv : ∀ b ∈ [a.A],b ∈ fW a ∨ NoSeq h b := fun b q => .inl (by rw [List.mem_singleton.mp q];simp)
  refine fP_acc ha hP kp (fun b q => .inl (List.mem_singleton.mp q)) ?_
  obtain @⟨⟨vs,m',e2,rr,hi⟩,_⟩ := hP
  rw [e] at e2
  cases e2
  have hne : a.dA ≠ a.A := by have := ha.nd;simp only [List.nodup_cons,List.mem_cons,not_or] at this;exact fun q => this.2.2.2.1.1 q.symm
  obtain @⟨es,n',i1,i2,i3,i4⟩ := hi
  refine ⟨vs ++ [v],m + 1,by rw [e'];simp,?_,es,n',by rw [e'];simp,kp _ _ (by simpa using hne) i2,i3,fun y => ⟨(i4 y).1,fun d q => let ⟨u,a1,a2,a3⟩ := (i4 y).2 d q;⟨u,a1,a2.move kp hv,a3⟩⟩⟩
  rw [List.map_append]
  refine (rr.move kp hv).append ?_
  simp only [List.map_cons,List.map_nil]
  unfold Rels
  exact ⟨v,[],rfl,r.move kp hv,by unfold Rels;rfl⟩
 case k => exact JP.nil fun s S => RQX.next S id
theorem lk_wd : typeLookup (.type "wrapper_descriptor") "__get__" = pure (some (.builtin "wrapper_descriptor.__get__")) := slot_wd_get.lookup
theorem lk_md : typeLookup (.type "method_descriptor") "__get__" = pure (some (.builtin "method_descriptor.__get__")) := slot_md_get.lookup
theorem supLen (w : World) : SupB w (ofString "__len__") "list.__len__" "method-wrapper" "wrapper_descriptor" "wrapper_descriptor.__get__" :=
 ⟨fun P => by kernel_rfl,type_llen,lk_wd,.inr rfl,by decide,fun A h g d t os x Q hi hq => bind_builtin (owner := "") (n := "") slot_wd_get entry_wd_get type_llen args_wd_get (fun A Q hq => llen_get hi (by simp) hq) hq,fun x => by kernel_rfl⟩
theorem supInit (w : World) : SupB w (ofString "__init__") "list.__init__" "method-wrapper" "wrapper_descriptor" "wrapper_descriptor.__get__" :=
 ⟨fun P => by kernel_rfl,type_linit,lk_wd,.inr rfl,by decide,fun A h g d t os x Q hi hq => bind_builtin (owner := "") (n := "") slot_wd_get entry_wd_get type_linit args_wd_get (fun A Q hq => linit_get hi (by simp) hq) hq,fun x => by kernel_rfl⟩
theorem supPop (w : World) : SupB w (ofString "pop") "list.pop" "builtin_function_or_method" "method_descriptor" "method_descriptor.__get__" :=
 ⟨fun P => by kernel_rfl,type_lpop,lk_md,.inl rfl,by decide,fun A h g d t os x Q hi hq => bind_builtin (owner := "") (n := "") slot_md_get entry_md_get type_lpop args_md_get (fun A Q hq => lpop_get hi (by simp) hq) hq,fun x => by kernel_rfl⟩
noncomputable def fileIn (K : Frag) (cda : Addr) : Bool := match K.lookup cda with
 | some ⟨_,_,.fields vs,_⟩ => (match (vs[2]? : Option Value) with | some (.str file _) => (PR.main.file : Str) == file | _ => false)
 | _ => false
set_option tactic.hygienic true in
theorem file_of {K : Frag} {cda : Addr} (e : fileIn K cda = true) : ∃ ccl cdd vs ccs file tf,K.lookup cda = some ⟨ccl,cdd,.fields vs,ccs⟩ ∧ vs[2]? = some (.str file tf) ∧ ((PR.main.file : Str) == file) = true := by
 unfold fileIn at e
 split at e
 ·rename_i vs ccs hk
  split at e
  ·rename_i file tf h2
   exact ⟨_,_,_,_,_,_,hk,h2,e⟩
  ·cases e
 ·cases e
theorem spec_partcount {w : World} {hb : Heap} {a : FA} {σ : FS} {U : List Addr} (g : Amb w hb (fW a) U) :
  SpecX w hb (fW a) U 1 175 (fI a σ) [.val (.ref a.A)] (.int σ.parts.length) (fI a σ) := by
 revert w hb a σ U;intros w hb a σ U g
 intros A s vs room hst hsz hW hI hR
 refine rels1 hR ?_;clear hR;intros v1;intro r1
 refine' spec_enterF (I := fI a σ) (ρ := [(ofString "self",.val (.ref a.A))]) (binds := [(ofString "self",v1)]) g room hst hsz hW hI ?ho ?hcd ?hbind ?hρ ?hloc ?hcl ?hap ?hcell ?h ?hco ?hgen ?hk
 case ho => k_is
 case hcd => kernel_rfl
 case hbind => rfl
 case hρ =>
  intros x d e
  rw [List.lookup_cons] at e
  split at e
  ·rename_i q
   cases e
   rw [beq_iff_eq.mp q]
   exact .inl ⟨v1,rfl,r1,rfl⟩
  ·cases e
 case hloc => intros x hx;rw [List.mem_singleton.mp hx];rfl
 case hcl => intros n c hm;obtain @⟨rfl,rfl⟩ := Prod.mk.inj (List.mem_singleton.mp hm);obtain @⟨cl,cld,csl,e⟩ := cell102 w.params;exact ⟨_,_,_,_,e⟩
 case hap => exact List.pairwise_singleton _ _
 case hcell => decide
 case hco => rfl
 case hgen => rfl
 case hk => rfl
 intros A' env s0 L hE ok s S
 refine ks_wpAt_execs_cons (ks_wpAt_Return_some ?_)
 refine super_call (c := Cx.mk w hb (fW a) U A' env) (I := fI a σ) (x := a.A) (dx := a.dA) (sn := ofString "self") ok ⟨hE,?o1,?o2,rfl,rfl,rfl,rfl⟩ (supLen w) S.sta rfl fI_acc fun s1 e1 => ⟨?o3,?o4⟩
 case o1 => exact ⟨_,_,_,_,_,by k_is,rfl,rfl⟩
 case o2 => exact file_of (by kernel_rfl)
 case o3 =>
  intros A Q E q
  exact wpAny_of_eq (show checkBoundCall "list.__len__" ⟨[.ref a.A],[]⟩ = pure () by kernel_rfl) q
 case o4 =>
  refine codeAny_builtin entry_list_len ?_
  have S1 := S.ext0 e1
  obtain @⟨⟨vs,m,hA,hvs,_⟩,_⟩ := S1.sta.asr
  show wpAny _ _ (do retInt (← seqSize a.A)) _ _ s1
  unfold seqSize
  refine wpAny_bind (wpAny_bind (wpAny_loadPart hA (wpAny_pure ?_)))
  refine wpAny_bind (wpAny_mkInt' ?_)
  refine wpAny_pure ?_
  have hlen : vs.length = σ.parts.length := by have := hvs.length;simpa using this
  refine ⟨⟨_,.inl rfl,(S1.ext.trans (Ext.tok _ _ _)),by unfold Rel;exact ⟨_,by rw [List.size_toArray,hlen]⟩,S1.sta.win,S1.sta.asr⟩,S1.sta.stays.1⟩
theorem chkA (x : Addr) : Bind.checkArgs "list.pop" { machinery := Manifest.Machinery.positional,full := toString (ofString "_Accumulator").toString ++ toString "." ++ toString (Bind.lastOf "list.pop"),short := "pop",receiver := Manifest.Receiver.self,params := [{ name := "index",kind := Manifest.ParamKind.posOnly,required := false }] } ⟨[.ref x],[]⟩ = pure () := by kernel_rfl
theorem chk_pop {w : World} {A : Around} {h : Heap} {g : Array GenState} {d : Drawn} {t : Nat} {os : OsState} {x dx : Addr} {xs : Array Value} {m : Nat} {sl : Array (Option Value)} {Q : Unit -> Shared -> Prop} {E : Value -> Shared -> Prop} (X : (hd.heap_1 w.params).In h) (hA : h.get? x = some ⟨.ref 178,some dx,.seq xs m,sl⟩)
  (q : Q () ⟨h,g,d,t,os⟩) : wpAny (model PR w) A (checkBoundCall "list.pop" ⟨[.ref x],[]⟩) Q E ⟨h,g,d,t,os⟩ := by
 have L1 : Looks (model PR w) h (isInstance (.ref x) (.type "module")) false := ((Looks.ld (part := none) hA).andThen .now).andThen (looks_mroIn X (show mroIn (hd.heap_1 w.params) 178 (.type "module") = some false by k_is))
 have L2 : Looks (model PR w) h (typeOf (.ref x)) (.ref 178) := (Looks.ld (part := none) hA).andThen .now
 obtain ⟨cdD,hD,hqn⟩ : ∃ cd,clsIn (hd.heap_1 w.params) 178 = some cd ∧ cd.qualname = ofString "_Accumulator" := ⟨_,by k_is,rfl⟩
 have L3 := looks_clsIn (M := model PR w) X hD
 have L4 : Looks (model PR w) h (typeOf (.ref 178)) (.type "type") := looks_typeIn X (by k_is)
 have L5 : Looks (model PR w) h (isType (.ref x)) false := (Looks.ld (part := none) hA).andThen .now
 delta checkBoundCall
 repeat (first | with_reducible refine Looks.at L1 ?_ | with_reducible refine Looks.at L2 ?_ | with_reducible refine Looks.at L3 ?_ | rewrite [hqn] | with_reducible refine Looks.at L4 ?_ | with_reducible refine Looks.at L5 ?_ | refine wpAny_of_eq (chkA _) ?_ | walk_at "tn")
 exact q
theorem updSeqA {w : World} {A : Around} {h : Heap} {g : Array GenState} {d : Drawn} {t : Nat} {os : OsState} {E : Value -> Shared -> Prop} {x C dx : Addr} {its : Array Value} {n : Nat} {fn : Array Value -> Array Value} {Q : Unit -> Shared -> Prop} (ho : h.get? x = some ⟨.ref C,some dx,.seq its n,#[]⟩) (h1 : its.size ≤ 2000) (h2 : (fn its).size ≤ 2000)
  (q : ∀ h' m,Heap.SameBut x h h' -> h'.get? x = some ⟨.ref C,some dx,.seq (fn its) m,#[]⟩ -> Q () ⟨h',g,d,t,os⟩) : wpAny (model PR w) A (updateSeq x fn) Q E ⟨h,g,d,t,os⟩ := by
 obtain ⟨m,e⟩ : ∃ m,Obj.mapSeq fn ⟨.ref C,some dx,.seq its n,#[]⟩ = ⟨.ref C,some dx,.seq (fn its) m,#[]⟩ := ⟨_,rfl⟩
 refine wpAny_updateSeq (s := ⟨h,g,d,t,os⟩) ho rfl (q _ m (Heap.SameBut.update ..) ?_) (by rw [sizeLine_eq];omega) (by rw [sizeLine_eq];omega)
 rw [Heap.get?_update_self _ ho (by rw [e];rfl),e]
theorem fA_ne {a : FA} (ha : a.Ok) : a.dA ≠ a.A := by have := ha.nd;simp only [List.nodup_cons,List.mem_cons,not_or] at this;exact fun q => this.2.2.2.1.1 q.symm
theorem acc_items {a : FA} (ha : a.Ok) {parts parts' : List (Str × Str)} {init : Int} {h h' : Heap} {vs vs' : List Value} {m m' : Nat} (e : h.get? a.A = some ⟨.ref 178,some a.dA,.seq (List.toArray vs) m,#[]⟩) (y : AccP (fW a) a.A a.dA parts init h) (sb : Heap.SameBut a.A h h')
  (e' : h'.get? a.A = some ⟨.ref 178,some a.dA,.seq (List.toArray vs') m',#[]⟩) (r : Rels (fW a) h (parts'.map partD) vs') : AccP (fW a) a.A a.dA parts' init h' := by
 revert a parts parts' init h h' vs vs' m m';intros a ha parts parts' init h h' vs vs' m m' e y sb e' r
 have kp : ∀ b o,b ∉ [a.A] -> h.get? b = some o -> h'.get? b = some o := fun b o nb eb => sb.extBut b o (fun q => nb (q ▸ List.mem_singleton.mpr rfl)) eb
 have hv : ∀ b ∈ [a.A],b ∈ fW a ∨ NoSeq h b := fun b q => .inl (by rw [List.mem_singleton.mp q];simp)
 obtain @⟨vs0,m0,e2,rr,es,n',i1,i2,i3,i4⟩ := y
 exact ⟨vs',m',e',r.move kp hv,es,n',e',kp _ _ (by simpa using fA_ne ha) i2,i3,fun y => ⟨(i4 y).1,fun d q => let ⟨u,a1,a2,a3⟩ := (i4 y).2 d q;⟨u,a1,a2.move kp hv,a3⟩⟩⟩
noncomputable def FS.pop (σ : FS) : FS := { σ with parts := σ.parts.dropLast }
noncomputable def FS.top (σ : FS) : Str × Str := σ.parts.getLast?.getD (ofString "",ofString "")
theorem rels_last {W : List Addr} {h : Heap} : ∀ {ps : List (Str × Str)} {vs : List Value},Rels W h (ps.map partD) vs -> ps ≠ [] -> ∃ r v,vs = r ++ [v] ∧ Rels W h (ps.dropLast.map partD) r ∧ Rel W h (partD (ps.getLast?.getD (ofString "",ofString ""))) v
 | [],_,_,q => absurd rfl q
 | [p],vs,x,_ => by
  refine rels1 x ?_;clear x;intro v p1
  exact ⟨[],v,rfl,by unfold Rels;rfl,p1⟩
 | p :: p' :: ps,vs,x,_ => by
  obtain ⟨v,r,rfl,p1,p2⟩ := x
  obtain ⟨r',v',rfl,q1,q2⟩ := rels_last (ps := p' :: ps) p2 (by simp)
  refine ⟨v :: r',v',rfl,?_,?_⟩
  ·show Rels W h (partD p :: ((p' :: ps).dropLast.map partD)) _
   unfold Rels
   exact ⟨v,r',rfl,p1,q1⟩
  ·rw [List.getLast?_cons_cons];exact q2
theorem spec_pop {w : World} {hb : Heap} {a : FA} {σ : FS} (g : Amb w hb (fW a) (fW a)) (ha : a.Ok) (hz : σ.parts.length ≤ 1000) :
  SpecX w hb (fW a) (fW a) 2 138 (fI a σ) [.val (.ref a.A)] (partD σ.top) (fI a σ.pop) := by
 revert w hb a σ;intros w hb a σ g ha hz
 intros A s vs room hst hsz hW hI hR
 refine rels1 hR ?_;clear hR;intro v1 r1
 refine' spec_enterF (I := fI a σ) (ρ := [(ofString "self",.val (.ref a.A))]) (binds := [(ofString "self",v1)]) g room hst hsz hW hI ?ho ?hcd ?hbind ?hρ ?hloc ?hcl ?hap ?hcell ?h ?hco ?hgen ?hk
 case ho => k_is
 case hcd => kernel_rfl
 case hbind => rfl
 case hρ =>
  intros x d e
  rw [List.lookup_cons] at e
  split at e
  ·rename_i q
   cases e
   rw [beq_iff_eq.mp q]
   exact .inl ⟨v1,rfl,r1,rfl⟩
  ·cases e
 case hloc => intros x hx;rw [List.mem_singleton.mp hx];rfl
 case hcl => intros n c hm;obtain ⟨rfl,rfl⟩ := Prod.mk.inj (List.mem_singleton.mp hm);obtain ⟨cl,cld,csl,e⟩ := cell102 w.params;exact ⟨_,_,_,_,e⟩
 case hap => exact List.pairwise_singleton _ _
 case hcell => decide
 case hco => rfl
 case hgen => rfl
 case hk => rfl
 intros A' env s0 L hE ok s S
 have hE' : (Cx.mk w hb (fW a) (fW a) A' env).env = _ := hE
 have g0 : Amb w hb (fW a) [] := ⟨g.g,g.wh,fun b q => nomatch q⟩
 refine ks_wpAt_execs_cons (ks_wpAt_If (wpAt_of_wpAny (fin (JT.cmp (c := Cx.mk w hb (fW a) (fW a) A' env) (I := fI a σ) (ρ := [(ofString "self",.val (.ref a.A))]) ok (JE.methL0 (x := a.A) (dx := a.dA) (C := 178) ok (by decide) (JE.var ok rfl) fI_acc rfl (OL178 _) (by k_is) (by k_is) (by k_is) (spec_partcount g0)) JE.cint BinR.eq (by with_unfolding_all rfl) s S.sta) fun b s1 q => ?_)))
 obtain ⟨e1,hb1⟩ := q
 have S1 := S.ext0 e1
 by_cases hp : σ.parts = []
 ·have hb2 : b = true := by rw [hb1,hp];rfl
  rw [hb2,if_pos rfl]
  refine wpAt_of_wpAny (JS.ret (c := Cx.mk w hb (fW a) (fW a) A' env) (I := fI a σ) (s0 := s0) (ρ := [(ofString "self",.val (.ref a.A))]) (rest := []) (d := .tup [.str (ofString ""),.str (ofString "")]) (JE.tup (JEs.cons JE.cstr (JEs.cons JE.cstr JEs.nil rfl) rfl) (by simp)) (fun v s2 S2 r2 => ?_) s1 S1)
  refine ⟨RQX.ret S2 ?_ ?_,S2.sta.stays.1⟩
  ·have : σ.top = (ofString "",ofString "") := by unfold FS.top;rw [hp];rfl
   rw [this];exact r2
  ·have : σ.pop = σ := by unfold FS.pop;rw [hp];cases σ;simp at hp;subst hp;rfl
   rw [this];exact id
 ·have hb2 : b = false := by
   rw [hb1]
   have : σ.parts.length ≠ 0 := fun q => hp (List.eq_nil_of_length_eq_zero q)
   simp;omega
  rw [hb2,if_neg (by decide)]
  refine wpAt_of_wpAny (wpAny_execs_nil ?_)
  show _root_.PySem.wpAt _ _ _ _ _ _ _
  refine ks_wpAt_execs_cons (ks_wpAt_Return_some ?_)
  refine super_call (c := Cx.mk w hb (fW a) (fW a) A' env) (I := fI a σ) (x := a.A) (dx := a.dA) (sn := ofString "self") ok ⟨hE,?o1,?o2,rfl,rfl,rfl,rfl⟩ (supPop w) S1.sta rfl fI_acc fun s2 e2 => ?o3
  case o1 => exact ⟨_,_,_,_,_,by k_is,rfl,rfl⟩
  case o2 => exact file_of (by kernel_rfl)
  case o3 =>
   have S2 := S1.ext0 e2
   have hP := S2.sta.asr
   obtain ⟨⟨vs,m,hA,hvs,hi⟩,hrest⟩ := id hP
   obtain ⟨h2,g2,d2,t2,os2⟩ := s2
   refine ⟨fun A Q E q => chk_pop (S2.sta.kin ok) hA q,?_⟩
   obtain ⟨r,v,rfl,hr,hv⟩ := rels_last hvs hp
   have hlen : (r ++ [v]).length = σ.parts.length := by have := hvs.length;simpa using this
   refine codeAny_builtin PySem.F.entry_list_pop ?_
   show wpAny _ _ (Builtin.List.listItems (.ref a.A) >>= _) _ _ _
   refine wpAny_bind (listItems_at hA rfl ?_)
   have q1 : (List.toArray (r ++ [v])).isEmpty = false := by simp
   have q2 : (seqIndex? (-1) (List.toArray (r ++ [v])).size).bind (fun k => (List.toArray (r ++ [v]))[k]?.map (k,·)) = some (r.length,v) := by
    have q3 : seqIndex? (-1) (List.toArray (r ++ [v])).size = some r.length := by
     have h0 : (List.toArray (r ++ [v])).size = r.length + 1 := by simp
     rw [h0]
     unfold seqIndex?
     have h1 : (if (-1 : Int) < 0 then -1 + ((r.length + 1 : Nat) : Int) else -1) = (r.length : Int) := by
      rw [if_pos (by decide)];omega
     simp only [h1]
     rw [if_pos (by simp;omega)]
     simp
    rw [q3,Option.bind_some]
    simp
   rw [q1,if_neg (by decide),q2]
   have e3 : (List.toArray (r ++ [v])).eraseIdxIfInBounds r.length = List.toArray r := by
    unfold Array.eraseIdxIfInBounds
    rw [dif_pos (by simp)]
    simp [List.eraseIdx_append_of_length_le]
   have hz1 : r.length + 1 ≤ 1000 := by simp at hlen;omega
   refine wpAny_bind (updSeqA hA (by simp;omega) (by rw [e3];simp;omega) fun h' m' sb e => ?_)
   refine wpAny_pure ?_
   rw [e3] at e
   have kp : ∀ b o,b ∉ [a.A] -> h2.get? b = some o -> h'.get? b = some o := fun b o nb eb => sb.extBut b o (fun q => nb (q ▸ List.mem_singleton.mpr rfl)) eb
   have hv' : ∀ b ∈ [a.A],b ∈ fW a ∨ NoSeq h2 b := fun b q => .inl (by rw [List.mem_singleton.mp q];simp)
   have hAU : a.A ∈ fW a := by simp
   refine ⟨⟨v,.inl rfl,S2.ext.trans ⟨fun b o nb eb => kp b o (fun q => nb (by rw [List.mem_singleton.mp q];exact List.mem_append_left _ hAU)) eb,rfl,fun z => z⟩,hv.move kp hv',?_,?_⟩,fun b o eb => kp b o (fun q => ?_) (S2.sta.stays.1 b o eb)⟩
   ·intros b hb'
    by_cases q : b = a.A
    ·rw [q];exact ⟨_,e⟩
    ·obtain ⟨o,eo⟩ := S2.sta.win b hb'
     exact ⟨o,kp b o (by simpa using q) eo⟩
   ·exact fP_acc ha hP kp (fun b q => .inl (List.mem_singleton.mp q)) (acc_items (parts' := σ.parts.dropLast) ha hA hP.1 sb e hr)
   ·have := g.wh a.A hAU
    rw [List.mem_singleton.mp q,this] at eb;cases eb
theorem fI_L {a : FA} {σ : FS} : ∀ h,fP a σ h -> ∃ vs m od,InstAt h a.A ⟨.ref 178,some a.dA,.seq (List.toArray vs) m,#[]⟩ 178 od ∧ Rels (fW a) h (σ.parts.map partD) vs := fun h ⟨⟨vs,m,e,r,es,n',i1,i2,i3,i4⟩,_⟩ => ⟨vs,m,some (dictOf es n'),⟨e,rfl,rfl,i2⟩,r⟩
theorem fP_slice {a : FA} (ha : a.Ok) {σ : FS} {parts' : List (Str × Str)} {i : Nat} {h h' : Heap} {vs ws : List Value} {m m' : Nat} {od : Option Obj} (x : fP a σ h) (J : InstAt h a.A ⟨.ref 178,some a.dA,.seq (List.toArray vs) m,#[]⟩ 178 od) (r : Rels (fW a) h (σ.parts.map partD) vs) (rw' : Rels (fW a) h (parts'.map partD) ws)
  (sb : Heap.SameBut a.A h h') (e : h'.get? a.A = some ⟨.ref 178,some a.dA,.seq (List.toArray (vs.take i ++ ws)) m',#[]⟩) : fP a { σ with parts := σ.parts.take i ++ parts' } h' := by
 have kp : ∀ b o,b ∉ [a.A] -> h.get? b = some o -> h'.get? b = some o := fun b o nb eb => sb.extBut b o (fun q => nb (q ▸ List.mem_singleton.mpr rfl)) eb
 refine fP_acc ha x kp (fun b q => .inl (List.mem_singleton.mp q)) (acc_items ha J.at_ x.1 sb e ?_)
 rw [List.map_append,List.map_take]
 exact (r.take i).append rw'
theorem spec_popfrom {w : World} {hb : Heap} {a : FA} {σ : FS} (g : Amb w hb (fW a) (fW a)) (ha : a.Ok) (i : Nat) (hi : i ≤ σ.parts.length) (hz : σ.parts.length ≤ 900) :
  SpecX w hb (fW a) (fW a) 1 130 (fI a σ) [.val (.ref a.A),.int i] (.lst ((σ.parts.drop i).map partD)) (fI a { σ with parts := σ.parts.take i }) := by
 revert w hb a σ i;intros w hb a σ g ha i hi hz
 intros A s vs room hst hsz hW hI hR
 refine rels2 hR ?_;clear hR;intros v1 v2;intro r1 r2
 have X : (hd.heap_1 w.params).In s.heap := fun b o e => hst b o (g.g.X b o e)
 refine' spec_enterB (I := fI a σ) (ρ := [(ofString "i",.int i),(ofString "self",.val (.ref a.A))]) (binds := [(ofString "self",v1),(ofString "i",v2)]) g room hst hsz hW hI ?ho ?hcd ?hbind ?hρ ?hloc ?hcell ?h ?hco ?hgen ?hk
 case ho => k_is
 case hcd => k_is
 case hbind => exact binds_K X rfl (by k_is) rfl rfl rfl
 case hρ =>
  intros x d e
  rw [List.lookup_cons] at e
  split at e
  ·rename_i q
   cases e
   rw [beq_iff_eq.mp q]
   exact ⟨v2,rfl,r2,rfl⟩
  ·rw [List.lookup_cons] at e
   split at e
   ·rename_i q
    cases e
    rw [beq_iff_eq.mp q]
    exact ⟨v1,rfl,r1,rfl⟩
   ·cases e
 case hloc => intros x hx;simp only [List.mem_cons,List.not_mem_nil,or_false] at hx;rcases hx with rfl | rfl <;> rfl
 case hcell => decide
 case hco => rfl
 case hgen => rfl
 case hk => rfl
 intros A' env s0 L hE ok
 have hE' : (Cx.mk w hb (fW a) (fW a) A' env).env = _ := hE
 have hlen : (σ.parts.map partD).length = σ.parts.length := by simp
 refine JS.assign (c := Cx.mk w hb (fW a) (fW a) A' env) (I := fI a σ) ok (JE.sliceA (x := a.A) (dx := a.dA) (ds := σ.parts.map partD) (i := i) ok (JE.var ok rfl) (JE.var ok rfl) fI_L (by omega)) ?_ (kl hE' rfl)
 refine JS.setSlice (c := Cx.mk w hb (fW a) (fW a) A' env) (I' := fI a { σ with parts := σ.parts.take i }) (x := a.A) (dx := a.dA) (ds := σ.parts.map partD) (es := []) (i := i) ok (JE.lst JEs.nil (by simp)) (JE.var ok rfl) (.inl ⟨_,rfl,JE.var ok rfl⟩) fI_L (by simp) (by omega) (by omega) (by simp) ?_ ?_
 ·intros h h' vs m m' od ws hP J r rw' sb e
  have := fP_slice (parts' := []) ha hP J r rw' sb e
  rwa [List.append_nil] at this
 ·exact JS.ret (d := .lst ((σ.parts.drop i).map partD)) (by rw [List.map_drop];exact JE.var ok rfl) fun v s S r => RQX.ret S r id
theorem BinR.isNone : BinR (compareOp .Is) .non .non (.bool true) := fun w W A s u v hh hu hW r1 r2 => by
 rw [rnon r1,rnon r2]
 exact wpAny_bind (wpAny_pure (wpAny_pure ⟨Ext.refl _ _,mbool⟩))
theorem BinR.isNoneL {l : List D} : BinR (compareOp .Is) (.lst l) .non (.bool false) := fun w W A s u v hh hu hW r1 r2 => by
 obtain ⟨a,vs,rfl,_⟩ := rlst r1
 rw [rnon r2]
 exact wpAny_bind (wpAny_pure (wpAny_pure ⟨Ext.refl _ _,mbool⟩))
theorem InstD.congr {W : List Addr} {h : Heap} {x dx C : Addr} {dat : Data} {at1 at2 : List (Str × D)} {k k2 : Nat} (I : InstD W h x dx C dat at1 k) (e : ∀ y,at2.lookup y = at1.lookup y) (hk : k ≤ k2) : InstD W h x dx C dat at2 k2 := by
 obtain ⟨es,n',i1,i2,i3,i4⟩ := I
 exact ⟨es,n',i1,i2,Nat.le_trans i3 hk,fun y => by rw [e y];exact i4 y⟩
noncomputable def resetOut (σ : FS) (parts' : List (Str × Str)) : FS := { σ with parts := parts',init := 0 }
theorem spec_reset {w : World} {hb : Heap} {a : FA} {σ : FS} (g : Amb w hb (fW a) (fW a)) (ha : a.Ok) (parts' : List (Str × Str)) (ds : List D) (hds : (ds = [] ∧ parts' = []) ∨ ds = [.lst (parts'.map partD)]) (hz : σ.parts.length ≤ 900) (hz2 : parts'.length ≤ 900) :
  SpecX w hb (fW a) (fW a) 1 160 (fI a σ) (.val (.ref a.A) :: ds) .non (fI a (resetOut σ parts')) := fun A s vs room hst hsz hW hI hR => by
 obtain ⟨v1,r,rfl,r1,hR⟩ := hR
 have X : (hd.heap_1 w.params).In s.heap := fun b o e => hst b o (g.g.X b o e)
 obtain ⟨v2,d0,q,hb2,r2,hq⟩ : ∃ v2 d0 q,(∀ fd : FuncData,True) ∧ Rel (fW a) s.heap d0 v2 ∧ ((q = true ∧ d0 = .non ∧ parts' = [] ∧ r = [] ∧ v2 = .none) ∨ (q = false ∧ d0 = .lst (parts'.map partD) ∧ r = [v2])) := by
  rcases hds with ⟨rfl,rfl⟩ | rfl
  ·unfold Rels at hR
   exact ⟨.none,.non,true,fun _ => trivial,mnon,.inl ⟨rfl,rfl,rfl,hR,rfl⟩⟩
  ·unfold Rels at hR
   obtain ⟨v2,r',rfl,r2,hR⟩ := hR
   unfold Rels at hR
   subst hR
   exact ⟨v2,_,false,fun _ => trivial,r2,.inr ⟨rfl,rfl,rfl⟩⟩
 refine' spec_enterB (I := fI a σ) (ρ := [(ofString "startval",d0),(ofString "self",.val (.ref a.A))]) (binds := [(ofString "self",v1),(ofString "startval",v2)]) g room hst hsz hW hI ?ho ?hcd ?hbind ?hρ ?hloc ?hcell ?h ?hco ?hgen ?hk
 case ho => k_is
 case hcd => k_is
 case hbind =>
  rcases hq with ⟨_,_,_,rfl,rfl⟩ | ⟨_,_,rfl⟩
  ·exact binds_K X rfl (by k_is) rfl rfl rfl
  ·exact binds_K X rfl (by k_is) rfl rfl rfl
 case hρ =>
  intro x d e
  rw [List.lookup_cons] at e
  split at e
  ·rename_i q
   cases e
   rw [beq_iff_eq.mp q]
   exact ⟨v2,rfl,r2,rfl⟩
  ·rw [List.lookup_cons] at e
   split at e
   ·rename_i q
    cases e
    rw [beq_iff_eq.mp q]
    exact ⟨v1,rfl,r1,rfl⟩
   ·cases e
 case hloc => intro x hx;simp only [List.mem_cons,List.not_mem_nil,or_false] at hx;rcases hx with rfl | rfl <;> rfl
 case hcell => decide
 case hco => rfl
 case hgen => rfl
 case hk => rfl
 intro A' env s0 L hE ok
 have hE' : (Cx.mk w hb (fW a) (fW a) A' env).env = _ := hE
 have hlen : (σ.parts.map partD).length = σ.parts.length := by simp
 have isn : BinR (compareOp .Is) d0 .non (.bool q) := by
  rcases hq with ⟨rfl,rfl,_⟩ | ⟨rfl,rfl,_⟩
  ·exact BinR.isNone
  ·exact BinR.isNoneL
 refine JS.ifj (c := Cx.mk w hb (fW a) (fW a) A' env) (q := q) (JT.cmp ok (JE.var ok rfl) JE.cnon isn (by with_unfolding_all rfl)) (Sto (Cx.mk w hb (fW a) (fW a) A' env) (fI a σ) s0 [(ofString "startval",.lst (parts'.map partD)),(ofString "self",.val (.ref a.A))]) (fun q1 => ?b1) (fun q1 => ?b2) ?b3
 case b1 =>
  rcases hq with ⟨_,_,hp,_⟩ | ⟨q0,_⟩
  ·subst hp
   refine JS.assign ok (JE.lst JEs.nil (by simp)) (JP.nil fun s S => ?_) (kl hE' rfl)
   refine S.weak fun x d e => ?_
   rw [List.lookup_cons] at e ⊢
   split at e
   ·exact e
   ·rename_i hx;rw [List.lookup_cons,hx];exact e
  ·rw [q0] at q1;cases q1
 case b2 =>
  rcases hq with ⟨q0,_⟩ | ⟨_,hd0,_⟩
  ·rw [q0] at q1;cases q1
  ·subst hd0
   exact JP.nil fun s S => S
 case b3 =>
  refine JS.setSlice (c := Cx.mk w hb (fW a) (fW a) A' env) (I' := fI a { σ with parts := parts' }) (x := a.A) (dx := a.dA) (ds := σ.parts.map partD) (es := parts'.map partD) (i := 0) ok (JE.var ok rfl) (JE.var ok rfl) (.inr ⟨rfl,rfl⟩) fI_L (by simp) (by omega) (by omega) (by simpa using hz2) ?_ ?_
  ·intro h h' vs m m' od ws hP J r rw' sb e
   have := fP_slice (i := 0) ha hP J r rw' sb e
   exact this
  ·refine JS.setattr (c := Cx.mk w hb (fW a) (fW a) A' env) (I' := fI a (resetOut σ parts')) (x := a.A) (dx := a.dA) (C := 178) (d := .int 0) ok JE.cint (fun _ q => by cases q) (JE.var ok rfl) fI_acc (by simp) (Ne.symm (fA_ne ha)) (by decide) (by k_is) (.inr ⟨_,by k_is,rfl⟩) (by k_is) (by k_is) ?_ ?_
   ·intro h h' hP sb live up
    have kp : ∀ b o,b ∉ [a.dA] -> h.get? b = some o -> h'.get? b = some o := fun b o nb eb => sb.extBut b o (fun q => nb (q ▸ List.mem_singleton.mpr rfl)) eb
    have hv : ∀ b ∈ [a.dA],b ∈ fW a ∨ NoSeq h b := fun b q => .inl (by rw [List.mem_singleton.mp q];simp)
    refine fP_acc (σ := { σ with parts := parts' }) ha hP kp (fun b q => .inr (List.mem_singleton.mp q)) ?_
    obtain ⟨⟨vs,m,e,r,hi⟩,_⟩ := id hP
    refine ⟨vs,m,kp _ _ (by simpa using Ne.symm (fA_ne ha)) e,r.move kp hv,(up _ hi (fun cd q => by cases q)).congr (fun y => ?_) (by unfold kUp;simp)⟩
    rw [List.lookup_cons,List.lookup_cons,List.lookup_cons]
    split <;> rfl
   ·exact JP.nil fun s S => RQX.next S id
section
section
variable {c : Cx} {I : Asr c.W} {ρ : List (Str × D)} {n : Nat} {P : Addr}
theorem gen_done {s s5 s6 s' : Shared} {wr : List Addr} {gi : Nat} (ok : c.Ok n) (S : Sta c I ρ s) (e5 : Ext [P] s s5) (S5 : Sta c I ρ s5) (hwr : ∀ b ∈ wr,s.heap.get? b = none) (hP : ∀ h,I.P h -> TabP h P) (hPU : P ∈ c.U)
  (up : ∀ h h' ps,I.P h -> Heap.ExtBut P h h' -> h'.get? P = some (tabObj ps) -> TriplesOk ps.toList -> I.P h') (h1 : s6.heap = s5.heap) (h2 : s6.gens = s5.gens) (h3 : s6.os = s5.os) (mv : Moved wr (GenOnlyQ gi) s6 s') : Ext [P] s s' ∧ Sta c I ρ s' := by
 have e : Ext [P] s s' := ⟨fun b o nb eb => mv.heap b o (fun q => by rw [hwr b q] at eb;cases eb) (h1 ▸ e5.keep b o nb eb),mv.os.trans (h3.trans e5.os),fun z => AllBare.movedS (s := s6) (h2 ▸ e5.gens z) mv⟩
 obtain ⟨ps,hps,htr⟩ := hP _ S5.asr
 have hPw : P ∉ wr := fun q => by
  obtain ⟨ps,hps,_⟩ := hP _ S.asr
  rw [hwr P q] at hps;cases hps
 have hps' : s'.heap.get? P = some (tabObj ps) := mv.heap _ _ hPw (h1 ▸ hps)
 exact ⟨e,S.upd ok e (fun b q => by rw [List.mem_singleton.mp q];exact hPU) (fun b q => by rw [List.mem_singleton.mp q];exact ⟨_,hps'⟩) (up _ _ ps S.asr (fun b o hb eb => e.keep b o (fun q => hb (List.mem_singleton.mp q)) eb) hps' htr)⟩
end
theorem fI_tab {a : FA} (ha : a.Ok) {σ : FS} {P : Addr} (hPa : P = 140 ∨ P = 147) : ∀ h h' ps,(fI a σ).P h -> Heap.ExtBut P h h' -> h'.get? P = some (tabObj ps) -> TriplesOk ps.toList -> (fI a σ).P h' := fun h h' ps ⟨x1,x2,x3,x4,x5⟩ hx hp ht => by
 have kp : ∀ b o,b ∉ [P] -> h.get? b = some o -> h'.get? b = some o := fun b o nb eb => hx b o (fun q => nb (List.mem_singleton.mpr q)) eb
 have hv : ∀ b ∈ [P],b ∈ fW a ∨ NoSeq h b := fun b q => .inl (by rw [List.mem_singleton.mp q];rcases hPa with rfl | rfl <;> simp)
 have nd := ha.nd
 simp only [List.nodup_cons,List.mem_cons,not_or,List.not_mem_nil,not_false_eq_true,and_true] at nd
 obtain ⟨⟨_,_,_,_,f5,f6⟩,⟨_,_,_,g5,g6⟩,⟨_,_,l5,l6⟩,⟨_,a5,a6⟩,⟨d5,d6⟩,t5⟩ := nd
 have off : ∀ p,p ≠ 140 -> p ≠ 147 -> p ∉ [P] := fun p q1 q2 q => by rcases hPa with rfl | rfl <;> simp_all
 refine ⟨x1.move kp hv (off _ a5 a6) (off _ d5 d6),x2.move (off _ f5 f6) (off _ g5 g6) hv kp,x3.move kp hv (off _ l5 l6),?_,?_⟩
 ·by_cases q : P = 140
  ·subst q;exact ⟨ps,hp,ht⟩
  ·exact x4.move kp (by simpa using Ne.symm q)
 ·by_cases q : P = 147
  ·subst q;exact ⟨ps,hp,ht⟩
  ·exact x5.move kp (by simpa using Ne.symm q)
section
variable {w : World} {hb : Heap} {A : Around} {E : Value -> Shared -> Prop} {cenv : Env} {s : Shared} {m : Str -> Option Value}
theorem ge_local {x : Str} {v : Value} {pos : Pos} {Q : Value -> Shared -> Prop} (G : GEnv w hb cenv s.heap m) (hk : cenv.kindOf x = some .local) (hx : m x = some v) (q : Q v s) (hd : (x == ("__debug__" : Str)) = false := by decide) : wpAny (model PR w) A (eval (.Name x pos) cenv) Q E s :=
 wpAny_Name (wpAny_loadName_local G.kind hk G.ns hx q) hd
theorem ge_bltn {x : Str} {v : Value} {pos : Pos} {Q : Value -> Shared -> Prop} (G : GEnv w hb cenv s.heap m) (e : nsIn (hd.heap_1 w.params) mainGlobals x = some none) (hv : bootBuiltins x = some v) (hn : x ≠ "__name__") (hk : cenv.kindOf x = some .globalImplicit) (q : Q v s) (hd : (x == ("__debug__" : Str)) = false := by decide) :
  wpAny (model PR w) A (eval (.Name x pos) cenv) Q E s := by
 revert w hb A E cenv s m x v pos Q;intros w hb A E cenv s m x v pos Q G e hv hn hk q hd
 obtain @⟨p,loose,mg,mb,T⟩ := G.gr.T
 refine wpAny_Name ?_ hd
 unfold loadName
 simp only [Env.blockKind,G.kind,hk,ScopeKind.isAnnotationScope,Bool.false_and,Bool.false_eq_true,if_false]
 unfold loadGlobal
 rw [G.gl,G.bi]
 refine wpAny_bind (wpAny_nsGet (T.g.keeps G.st) ?_)
 rw [mg_none_of G.gr.X T.g e]
 refine wpAny_bind (wpAny_nsGet (T.b.keeps G.st) ?_)
 rw [T.builtins x hn,hv]
 exact wpAny_pure q
theorem ge_glob {x : Str} {v : Value} {pos : Pos} {Q : Value -> Shared -> Prop} (G : GEnv w hb cenv s.heap m) (e : nsIn (hd.heap_1 w.params) mainGlobals x = some (some v)) (hk : cenv.kindOf x = some .globalImplicit) (q : Q v s) (hd : (x == ("__debug__" : Str)) = false := by decide) :
  wpAny (model PR w) A (eval (.Name x pos) cenv) Q E s := by
 revert w hb A E cenv s m x v pos Q;intros w hb A E cenv s m x v pos Q G e hk q hd
 obtain @⟨mg,hg,hv⟩ := kx_some G.gr e
 refine wpAny_Name ?_ hd
 unfold loadName
 simp only [Env.blockKind,G.kind,hk,ScopeKind.isAnnotationScope,Bool.false_and,Bool.false_eq_true,if_false]
 unfold loadGlobal
 rw [G.gl]
 refine wpAny_bind (wpAny_nsGet (hg.keeps G.st) ?_)
 rw [hv]
 exact wpAny_pure q
theorem ge_len {x : Str} {y : Str} {t : Tok} {p0 px pos : Pos} {Q : Value -> Shared -> Prop} (G : GEnv w hb cenv s.heap m) (hl : cenv.kindOf (ofString "len") = some .globalImplicit) (hk : cenv.kindOf x = some .local) (hx : m x = some (.str y t)) (hy : y.length ≤ 1000)
  (q : Q (.int y.length (s.toks + 1)) { s with toks := s.toks + 1 + 1 }) (hd' : (x == ("__debug__" : Str)) = false := by decide) : wpAny (model PR w) A (eval (.Call (.Name (ofString "len") p0) [.Name x px] [] pos) cenv) Q E s := by
 refine Call_ (ge_bltn G (by k_is) boot_len (by decide) hl ?_)
 refine PyProof.Rows.callWith_builtin1 (spliced_more (ge_local G hk hx (spliced_none ?_) hd'))
 exact PyProof.Rows.len_str (by omega) q
end
noncomputable def partLen (p : Str × Str) : Int := (p.1.length : Int) + (p.2.length : Int)
noncomputable def FS.len (σ : FS) : Int := σ.init + (σ.parts.map partLen).sum
noncomputable def FS.fits (σ : FS) : Prop := σ.parts.length ≤ 900 ∧ (∀ p ∈ σ.parts,p.1.length ≤ 100 ∧ p.2.length ≤ 100) ∧ 0 ≤ σ.init ∧ σ.init < 100000
theorem preSum_map (ps : List (Str × Str)) : ∀ n,n ≤ ps.length -> preSum (fun i => partLen (ps[i]?.getD (ofString "",ofString ""))) n = ((ps.take n).map partLen).sum
 | 0,_ => rfl
 | n + 1,h => by
  show preSum _ n + partLen (ps[n]?.getD _) = _
  have e : ps[n]? = some ps[n] := List.getElem?_eq_getElem (by omega)
  rw [preSum_map ps n (by omega),List.take_add_one,e,List.map_append,List.sum_append]
  show _ = _ + (List.map partLen [ps[n]]).sum
  simp only [Option.getD_some,List.map_cons,List.map_nil,List.sum_cons,List.sum_nil,Int.add_zero]
theorem hcd144 (P : Params) : codeHdIn (hd.heap_1 P) 144 140 = true := by kernel_rfl
theorem hcd151 (P : Params) : codeHdIn (hd.heap_1 P) 151 147 = true := by kernel_rfl
end
theorem fI_tabs {a : FA} {σ : FS} : (∀ h,(fI a σ).P h -> TabP h 140) ∧ (∀ h,(fI a σ).P h -> TabP h 147) := ⟨fun h x => x.2.2.2.1,fun h x => x.2.2.2.2⟩
theorem fA_147 {a : FA} (ha : a.Ok) : a.A ≠ 140 ∧ a.A ≠ 147 := by
 have nd := ha.nd
 simp only [List.nodup_cons,List.mem_cons,not_or,List.not_mem_nil,not_false_eq_true,and_true] at nd
 exact ⟨nd.2.2.2.1.2.1,nd.2.2.2.1.2.2⟩
theorem noSeq_tab {h : Heap} {P : Addr} (x : TabP h P) : NoSeq h P := fun o e xs n q => by
 obtain ⟨ps,e2,_⟩ := x
 rw [e] at e2;cases e2;cases q
theorem spec_len {w : World} {hb : Heap} {a : FA} {σ : FS} (g : Amb w hb (fW a) (fW a)) (ha : a.Ok) (hf : σ.fits) :
  SpecX w hb (fW a) (fW a) 3 145 (fI a σ) [.val (.ref a.A)] (.int σ.len) (fI a σ) := by
 revert w hb a σ;intros w hb a σ g ha hf
 intros A s vs room hst hsz hW hI hR
 refine rels1 hR ?_;clear hR;intro v1 r1
 refine' spec_enterX (I := fI a σ) (ρ := [(ofString "self",.val (.ref a.A))]) (binds := [(ofString "self",v1)]) g room hst hsz hW hI ?ho ?hcd ?hbind ⟨rfl,r1,trivial⟩ ?hkind ?hnd ?h ?hco ?hgen ?hk
 case ho => k_is
 case hcd => k_is
 case hbind => rfl
 case hkind => rfl
 case hnd => decide
 case hco => rfl
 case hgen => rfl
 case hk => rfl
 intros A' env s0 L hE ok
 have hE' : (Cx.mk w hb (fW a) (fW a) A' env).env = _ := hE
 refine JS.xret (c := Cx.mk w hb (fW a) (fW a) A' env) (I := fI a σ) (I' := fI a σ) (d := .int σ.len) ?_ fun v s S r => RQX.ret S r id
 intros s S
 refine Call_ (fin (JE.bltn (I := fI a σ) (ρ := [(ofString "self",.val (.ref a.A))]) ok (by k_is) boot_sum (by decide) (kd hE' rfl) (by decide) s S) fun u s1 q => ?_)
 rw [rval q.2]
 have S1 := S.ext q.1
 obtain ⟨m,F,hv⟩ := S1.loc.fr
 have hself : m (ofString "self") = some (.ref a.A) := by
  rcases hv (ofString "self") _ rfl with ⟨_,v,h2,h3⟩ | ⟨h1,_⟩
  ·rw [h2,rval h3]
  ·rw [kd hE' (k := .local) rfl] at h1;rcases h1 with h1 | h1 <;> simp at h1
 refine PyProof.Rows.callWith_builtin1 (spliced_more (fin (genA (c := Cx.mk w hb (fW a) (fW a) A' env) (I := fI a σ) (x := a.A) (dx := a.dA) (P := 140) (cc := 144) (parts := σ.parts) (n := 1) (F := fun i y => ∃ t,y = .int (partLen (σ.parts[i]?.getD (ofString "",ofString ""))) t) ok S1
  (fun Q q => wpAny_Name (wpAny_loadName_local ok.env.kind (kd hE' rfl) F.ns hself q)) fI_L fI_tabs.1 (by simp) (fA_147 ha).1 (noSeq_tab (fI_tabs.1 _ S1.asr)) (fI_tab ha (.inl rfl)) (by rw [hE];rfl) (hcd144 _) ?hclos ?hcell ?h0 ?hxa ?hxb ?hab ?hkind ?hco ?hq) fun gv s5 ⟨ga,hga,e5,S5,GO⟩ => ?_))
 case hclos => rw [hE];rfl
 case hcell => decide
 case h0 => rfl
 case hxa => rfl
 case hxb => rfl
 case hab => decide
 case hkind => rfl
 case hco => rfl
 case hq =>
  intros A' E' cenv i u v t t' s₂ m₂ hsc G hp hu hv
  have hmem := List.mem_of_getElem? hp
  have hl := hf.2.1 _ hmem
  have k1 : ∀ x k,(Scope.names cenv.scope).lookup x = some k -> cenv.kindOf x = some k := fun x k e => e
  rw [hsc] at k1
  refine wpAny_BinOp (ge_len G (k1 _ _ rfl) (k1 _ _ rfl) hu (by have := hl.1;simp at this;omega) (ge_len (s := { s₂ with toks := s₂.toks + 1 + 1 }) G (k1 _ _ rfl) (k1 _ _ rfl) hv (by have := hl.2;simp at this;omega) ?_))
  refine PyProof.Rows.add_int ⟨?_,_,_,rfl,fun _ _ e => e⟩
  rw [hp]
  exact ⟨_,rfl⟩
 subst hga
 refine spliced_more ?_
 obtain ⟨vs,m2,hA,hR2,es,nn,i1,i2,i3,i4⟩ := S5.asr.1
 obtain ⟨iv,g1,g2,g3⟩ := (i4 (ofString "_initial_size")).2 _ rfl
 obtain ⟨it,rfl⟩ := rint g2
 obtain ⟨m5,F5,hv5⟩ := S5.loc.fr
 have hself5 : m5 (ofString "self") = some (.ref a.A) := by
  rcases hv5 (ofString "self") _ rfl with ⟨_,v,h2,h3⟩ | ⟨h1,_⟩
  ·rw [h2,rval h3]
  ·rw [kd hE' (k := .local) rfl] at h1;rcases h1 with h1 | h1 <;> simp at h1
 have J5 : InstAt s5.heap a.A ⟨.ref 178,some a.dA,.seq (List.toArray vs) m2,#[]⟩ 178 (some (dictOf es nn)) := ⟨hA,rfl,rfl,i2⟩
 refine Attribute_any_ (wpAny_Name (wpAny_loadName_local ok.env.kind (kd hE' rfl) F5.ns hself5 ?_))
 refine get_valueL (S5.kin ok) J5 (OL178 _).ga (OL178 _).hk (OL178 _).ml (findObj_own (attr := none) (OL178 _).hd (by k_is) (by k_is) ((lookIn_dict _ _ _).trans g1)) g3 (spliced_none ?_)
 obtain ⟨fp,wr,gi,St,W,hst5,hTy,hgf,hfp,hwr⟩ := GO
 refine call_sum2 (s := { s5 with toks := s5.toks + 1 }) hf.2.2.1 hf.2.2.2 ?_
 have st6 := W.frame 0 s5 s5.heap (s5.toks + 1) hst5 (Nat.le_succ _) fun _ _ _ e => e
 refine W.in4_1.self 0 _ _ _ st6 ⟨ga,fp,wr,_,σ.parts.length,_,St,fun i => partLen (σ.parts[i]?.getD (ofString "",ofString "")),rfl,W.in4_1,st6,hfp,fun i v p => p,fun s' t' mv => ?_⟩
 obtain ⟨e6,S6⟩ := gen_done (s6 := { s5 with toks := s5.toks + 1 }) ok S1 e5 S5 hwr fI_tabs.1 (by simp) (fI_tab ha (.inl rfl)) rfl rfl rfl mv
 refine ⟨q.1.nil.trans (e6.mono fun b q => by rw [List.mem_singleton.mp q];simp),?_,S6⟩
 rw [preSum_map _ _ (Nat.le_refl _),List.take_length]
 exact mint
noncomputable def partText (p : Str × Str) : Str := Txt.join (ofString "") [p.1,p.2]
noncomputable def FS.text (σ : FS) : Str := Txt.join (ofString "") (σ.parts.map partText)
theorem empty_glob (P : Params) : ∃ t,nsIn (hd.heap_1 P) mainGlobals (ofString "EMPTYSTRING") = some (some (.str (ofString "") t)) := ⟨_,by k_is⟩
theorem partText_len {p : Str × Str} (h1 : p.1.length ≤ 100) (h2 : p.2.length ≤ 100) : (partText p).length ≤ 200 := by
 have := StrLaws.join_length_le (ofString "") [p.1,p.2]
 have e : (ofString "").length = 0 := rfl
 simp only [List.map_cons,List.map_nil,List.sum_cons,List.sum_nil,e,List.length_cons,List.length_nil] at this
 show (Txt.join _ _).length ≤ _
 exact Nat.le_trans this (by omega)
theorem strs_of {F : Nat -> Str} {n : Nat} {l : List (Str × Tok)} (h : ItemsOf (fun i v => ∃ t,v = Value.str (F i) t) (strValues l).toArray n) : l.map (·.1) = (List.range n).map F := by
 obtain ⟨h1,h2⟩ := h
 have hl : l.length = n := by simpa [strValues] using h1
 refine List.ext_getElem (by simp [hl]) fun i p q => ?_
 have hi : i < l.length := by simpa using p
 obtain ⟨t,e⟩ := h2 i (.str l[i].1 l[i].2) (by simp [strValues,hi])
 have : l[i].1 = F i := (Value.str.inj e).1
 simpa using this
theorem spec_str {w : World} {hb : Heap} {a : FA} {σ : FS} (g : Amb w hb (fW a) (fW a)) (ha : a.Ok) (hf : σ.fits) :
  SpecX w hb (fW a) (fW a) 3 152 (fI a σ) [.val (.ref a.A)] (.str σ.text) (fI a σ) := by
 revert w hb a σ;intros w hb a σ g ha hf
 intros A s vs room hst hsz hW hI hR
 refine rels1 hR ?_;clear hR;intro v1 r1
 refine' spec_enterX (I := fI a σ) (ρ := [(ofString "self",.val (.ref a.A))]) (binds := [(ofString "self",v1)]) g room hst hsz hW hI ?ho ?hcd ?hbind ⟨rfl,r1,trivial⟩ ?hkind ?hnd ?h ?hco ?hgen ?hk
 case ho => k_is
 case hcd => k_is
 case hbind => rfl
 case hkind => rfl
 case hnd => decide
 case hco => rfl
 case hgen => rfl
 case hk => rfl
 intros A' env s0 L hE ok
 have hE' : (Cx.mk w hb (fW a) (fW a) A' env).env = _ := hE
 refine JS.xret (c := Cx.mk w hb (fW a) (fW a) A' env) (I := fI a σ) (I' := fI a σ) (d := .str σ.text) ?_ fun v s S r => RQX.ret S r id
 intros s S
 obtain ⟨te,hte⟩ := empty_glob w.params
 obtain ⟨m,F,hv⟩ := S.loc.fr
 have hself : m (ofString "self") = some (.ref a.A) := by
  rcases hv (ofString "self") _ rfl with ⟨_,v,h2,h3⟩ | ⟨h1,_⟩
  ·rw [h2,rval h3]
  ·rw [kd hE' (k := .local) rfl] at h1;rcases h1 with h1 | h1 <;> simp at h1
 refine MethodCall_ (pl := ?pl) (wpAny_Name (load_glob ok hte (kd hE' rfl) S ?_)) ?he
 case he => exact rfl
 refine GM.join (callWith_method1 (spliced_more (fin (genA (c := Cx.mk w hb (fW a) (fW a) A' env) (I := fI a σ) (x := a.A) (dx := a.dA) (P := 147) (cc := 151) (parts := σ.parts) (n := 1) (F := fun i y => ∃ t,y = .str (partText (σ.parts[i]?.getD (ofString "",ofString ""))) t) ok S
  (fun Q q => wpAny_Name (wpAny_loadName_local ok.env.kind (kd hE' rfl) F.ns hself q)) fI_L fI_tabs.2 (by simp) (fA_147 ha).2 (noSeq_tab (fI_tabs.2 _ S.asr)) (fI_tab ha (.inr rfl)) (by rw [hE];rfl) (hcd151 _) ?hclos ?hcell ?h0 ?hxa ?hxb ?hab ?hkind ?hco ?hq) fun gv s5 ⟨ga,hga,e5,S5,GO⟩ => ?_)))
 case hclos => rw [hE];rfl
 case hcell => decide
 case h0 => rfl
 case hxa => rfl
 case hxb => rfl
 case hab => decide
 case hkind => rfl
 case hco => rfl
 case hq =>
  intros A' E' cenv i u v t t' s₂ m₂ hsc G hp hu hv
  have hmem := List.mem_of_getElem? hp
  have hl := hf.2.1 _ hmem
  have k1 : ∀ x k,(Scope.names cenv.scope).lookup x = some k -> cenv.kindOf x = some k := fun x k e => e
  rw [hsc] at k1
  refine MethodCall_ (pl := ?pl2) (ge_glob G hte (k1 _ _ rfl) ?_) ?he2
  case he2 => exact rfl
  refine GM.join (callWith_method1 (spliced_more (Tuple_ (spliced_more (ge_local G (k1 _ _ rfl) hu (spliced_more (ge_local G (k1 _ _ rfl) hv (spliced_none (wpAny_newTuple (spliced_none ?_) (by rw [sizeLine_eq];simp))))))))))
  refine join_tupleW (items := #[.str u t,.str v t']) ⟨_,Heap.get?_push_size _ rfl,rfl,_,rfl⟩ (ys := [u,v]) ?_ (by decide) (by simp;have := hl.1;have := hl.2;simp at *;omega) fun t1 k => ⟨?_,_,_,rfl,fun b o e => Heap.get?_push_of_some _ e⟩
  ·exact .cons _ _ (.cons _ _ .nil)
  ·rw [hp];exact ⟨_,rfl⟩
 subst hga
 refine spliced_none ?_
 obtain ⟨fp,wr,gi,St,W,hst5,hTy,hgf,hfp,hwr⟩ := GO
 refine SC.joinGen W.in4_2 hTy hst5 hfp hgf (fun i v ⟨t,e⟩ => ⟨_,t,e⟩) (fun s' l mv hit => ?_) (by rw [sizeLine_eq];have := hf.1;omega)
 have hl := strs_of hit
 have hl2 : l.map (·.1) = σ.parts.map partText := by
  rw [hl]
  refine List.ext_getElem (by simp) fun i p q => ?_
  have hi : i < σ.parts.length := by simpa using q
  simp [hi]
 have hlen : ∀ y ∈ σ.parts.map partText,y.length ≤ 200 := fun y hy => by
  obtain ⟨p,hp,rfl⟩ := List.mem_map.mp hy
  exact partText_len (hf.2.1 p hp).1 (hf.2.1 p hp).2
 have hsum := strs_sum_le hlen
 have hz := hf.1
 rw [hl2]
 obtain ⟨e6,S6⟩ := gen_done (s6 := s5) ok S e5 S5 hwr fI_tabs.2 (by simp) (fI_tab ha (.inr rfl)) rfl rfl rfl mv
 refine ⟨joinOk_of_weight (by simp at hsum ⊢;omega) (by decide),fun t' k => ?_⟩
 have et : Ext [] s' { s' with toks := k } := Ext.tok _ _ _
 exact ⟨(e6.mono fun b q => by rw [List.mem_singleton.mp q];simp).trans et.nil,mstr,S6.ext et⟩
section
section
variable {c : Cx} {I I' I'' : Asr c.W} {ρ : List (Str × D)} {n m k : Nat} {s0 : Shared} {Q : Flow -> Shared -> Prop} {rest : List Stmt} {x dx : Addr} {at_ : List (Str × D)}
noncomputable def XT (c : Cx) (I : Asr c.W) (ρ : List (Str × D)) (e : Expr) (b : Bool) (I' : Asr c.W) : Prop :=
 ∀ s,Sta c I ρ s -> wpAny c.M c.A (isTrue e c.env (eval e c.env)) (fun v s' => Ext c.U s s' ∧ v = b ∧ Sta c I' ρ s') NoE s
theorem XT.cmp {op : CmpOp} {l r : Expr} {pos : Pos} {a b : D} {t : Bool} (ok : c.Ok n) (h1 : XE c I ρ l a I') (h2 : JE c I' ρ r b) (h3 : BinR (compareOp op) a b (.bool t)) (hm : behindInMarks op r = false := by with_unfolding_all rfl) :
  XT c I ρ (.Compare l [op] [r] pos) t I' := fun s S => by
 refine wpAny_isTrue_Compare1 (fin (h1 s S) fun v s1 x => ?_) hm
 obtain ⟨e1,r1,S1⟩ := x
 refine fin (h2 s1 S1) fun u s2 y => ?_
 refine fin (h3 c.w c.W c.A s2 v u ok.room.hh ok.un (S1.ext y.1).win (r1.ext y.1) y.2) fun z s3 q => ?_
 rw [rbool q.2]
 exact wpAny_truthy_bool ⟨(e1.trans y.1.nil).trans q.1.nil,rfl,(S1.ext y.1).ext q.1⟩
theorem XT.and {e : Expr} {r : List Expr} {pos : Pos} {t u : Bool} (h1 : XT c I ρ e t I) (h2 : t = true -> XT c I ρ (.BoolOp .And r pos) u I) : XT c I ρ (.BoolOp .And (e :: r) pos) (t && u) I := fun s S => by
 refine isTrue_and (fin (h1 s S) fun v s1 x => ?_)
 obtain ⟨x1,rfl,S1⟩ := x
 cases v with
 | false => exact ⟨x1,rfl,S1⟩
 | true => exact fin (h2 rfl s1 S1) fun _ _ q => ⟨x1.trans q.1,by rw [q.2.1];rfl,q.2.2⟩
theorem XT.plain {e : Expr} {d : D} {t : Bool} (ok : c.Ok n) (h1 : XE c I ρ e d I') (h2 : TruR d t)
  (he : ∀ env whole,isTrue e env whole = (do let v ← whole;standAt e.pos;holding [v] (truthy v)) := by intro _ _;rfl) : XT c I ρ e t I' := fun s S =>
 isTrue_plain (fin (h1 s S) fun v s1 x => fin (h2 c.w c.W c.A s1 v ok.room.hh ok.un x.2.1) fun _ _ q => ⟨x.1.trans q.1.nil,q.2,x.2.2.ext q.1⟩) (he _ _)
theorem XE.and2 {a b : Expr} {pos : Pos} {t u : Bool} (h1 : XE c I ρ a (.bool t) I) (h2 : t = true -> XE c I ρ b (.bool u) I) : XE c I ρ (.BoolOp .And [a,b] pos) (.bool (t && u)) I := fun s S => by
 refine BoolOp_and (fin (h1 s S) fun v s1 x => ?_)
 obtain ⟨e1,r1,S1⟩ := x
 rw [rbool r1]
 refine wpAny_truthy_bool ?_
 cases t with
 | false => exact ⟨e1,mbool,S1⟩
 | true => exact BoolOp_one (fin (h2 rfl s1 S1) fun _ _ q => ⟨e1.trans q.1,q.2.1,q.2.2⟩)
theorem XE.or2 {a b : Expr} {pos : Pos} {t u : Bool} (h1 : XE c I ρ a (.bool t) I) (h2 : t = false -> XE c I ρ b (.bool u) I) : XE c I ρ (.BoolOp .Or [a,b] pos) (.bool (t || u)) I := fun s S => by
 refine BoolOp_or (fin (h1 s S) fun v s1 x => ?_)
 obtain ⟨e1,r1,S1⟩ := x
 rw [rbool r1]
 refine wpAny_truthy_bool ?_
 cases t with
 | true => exact ⟨e1,mbool,S1⟩
 | false => exact BoolOp_one (fin (h2 rfl s1 S1) fun _ _ q => ⟨e1.trans q.1,q.2.1,q.2.2⟩)
theorem JS.xif {t : Expr} {a b : List Stmt} {pos : Pos} {q : Bool} (h : XT c I ρ t q I') (k1 : q = true -> JP c (Sto c I' s0 ρ) a (QN c rest Q)) (k2 : q = false -> JP c (Sto c I' s0 ρ) b (QN c rest Q)) :
  JP c (Sto c I s0 ρ) (.If t a b pos :: rest) Q := JP.step fun s S => by
 refine wpAny_If (fin (h s S.sta) fun v s1 x => ?_)
 obtain ⟨x1,rfl,S1⟩ := x
 have S1' : Sto c I' s0 ρ s1 := ⟨S.ext.trans (x1.mono u_sub),S1⟩
 cases v with
 | true => exact k1 rfl s1 S1'
 | false => exact k2 rfl s1 S1'
theorem spec_go {A' : Around} {f : Addr} {d : D} {s1 : Shared} (ok : c.Ok n) (room : Room A' m) (sp : SpecX c.w c.hb c.W c.U m f I [.val (.ref x)] d I') (S1 : Sta c I ρ s1) :
  wpAny c.M A' (call (.ref f) [.ref x]) (fun v s' => Ext c.U s1 s' ∧ Rel c.W s'.heap d v ∧ Sta c I' ρ s') NoE s1 := by
 refine fin (sp A' s1 _ room S1.stays.1 S1.stays.2 S1.win S1.asr (by unfold Rels;exact ⟨_,_,rfl,mval,by unfold Rels;rfl⟩)) fun v s3 z => ?_
 obtain ⟨z1,z2,z3,z4⟩ := z
 exact ⟨z1,z2,S1.upd ok z1 (fun b hb => hb) (fun b hb => z3 b (ok.sub b hb)) z4⟩
theorem Room.in1 {A : Around} (r : Room A (m + 1)) : Room A.in1 m := ⟨r.hh,by have := r.dp;show A.depth + m ≤ 600;omega,by have := r.un;show A.units + 1 + 20 * m ≤ 6000;omega⟩
theorem Room.in2 {A : Around} (r : Room A (m + 1)) : Room A.in1.in1 m := ⟨r.hh,by have := r.dp;show A.depth + m ≤ 600;omega,by have := r.un;show A.units + 1 + 1 + 20 * m ≤ 6000;omega⟩
theorem hasI_inst {s : Shared} (hI : HasI I x dx 178 at_ k) (S : Sta c I ρ s) : ∃ ox od,InstAt s.heap x ox 178 od := by
 obtain ⟨dat,hc,J⟩ := hI _ S.asr
 obtain ⟨es,m',J,_⟩ := J.inst hc
 exact ⟨_,_,J⟩
theorem XE.lenA {f e : Expr} {pos : Pos} {N : Int} (ok : c.Ok n) (hmn : m + 1 ≤ n) (hf : JE c I ρ f (.val (.builtin "len"))) (h : JE c I ρ e (.val (.ref x))) (hI : HasI I x dx 178 at_ k) (sp : SpecX c.w c.hb c.W c.U m 145 I [.val (.ref x)] (.int N) I) (h0 : 0 ≤ N) (h1 : N < 2 ^ 63)
  (he : starEach [e] c.env = (false,eval e c.env) :: starEach [] c.env := by rfl)
  (hq : eval (.Call f [e] [] pos) c.env = (do callWith pos (← eval f c.env) [] (backTo pos (starEach [e] c.env)) (backToKw pos (keywordEach [] c.env))) := by rfl) : XE c I ρ (.Call f [e] [] pos) (.int N) I := fun s S => by
 refine Call_bltn ok hf (.inr ⟨_,rfl⟩) (JEs.cons h JEs.nil he) S (fun vs s1 e1 r => ?_) he (fun _ => rfl) hq
 refine rels1 r ?_;clear r;intro v r1
 rw [rval r1]
 have S1 := S.ext e1
 obtain ⟨mm,F,_⟩ := S1.loc.fr
 obtain ⟨ox,od,J⟩ := hasI_inst hI S1
 refine len_K F ok.gr.X J (show findIn (hd.heap_1 c.w.params) (.ref 178) (ofString "__len__") = some (some (.ref 145)) by k_is) (show isFn (hd.heap_1 c.w.params) (.ref 145) = true by k_is) (fin (spec_go (ρ := ρ) ok (ok.room.le hmn).in1 sp S1) fun v s2 z => ?_)
 obtain ⟨t,rfl⟩ := rint z.2.1
 exact ⟨⟨h0,h1⟩,(e1.nil.trans z.1).trans (Ext.tok _ _ _),mint,z.2.2.ext (Ext.tok _ _ _)⟩
theorem XE.strA {f e : Expr} {pos : Pos} {y : Str} (ok : c.Ok n) (hmn : m + 1 ≤ n) (hf : JE c I ρ f (.val (.type "str"))) (h : JE c I ρ e (.val (.ref x))) (hI : HasI I x dx 178 at_ k) (sp : SpecX c.w c.hb c.W c.U m 152 I [.val (.ref x)] (.str y) I)
  (he : starEach [e] c.env = (false,eval e c.env) :: starEach [] c.env := by rfl)
  (hq : eval (.Call f [e] [] pos) c.env = (do callWith pos (← eval f c.env) [] (backTo pos (starEach [e] c.env)) (backToKw pos (keywordEach [] c.env))) := by rfl) : XE c I ρ (.Call f [e] [] pos) (.str y) I := fun s S => by
 refine Call_bltn ok hf (.inl ⟨_,rfl⟩) (JEs.cons h JEs.nil he) S (fun vs s1 e1 r => ?_) he (fun _ => rfl) hq
 refine rels1 r ?_;clear r;intro v r1
 rw [rval r1]
 have S1 := S.ext e1
 obtain ⟨ox,od,J⟩ := hasI_inst hI S1
 refine kso_call (by have := ok.room.un;show c.A.units + 1 + 1 < cLine;simp only [cLine];omega) (S1.kin ok) J (show findIn (hd.heap_1 c.w.params) (.ref 178) (ofString "__str__") = some (some (.ref 152)) by k_is) (show isFn (hd.heap_1 c.w.params) (.ref 152) = true by k_is) (fin (spec_go (ρ := ρ) ok (ok.room.le hmn).in2 sp S1) fun v s2 z => ?_)
 obtain ⟨t,rfl⟩ := rstr z.2.1
 exact ⟨e1.nil.trans z.1,mstr,z.2.2⟩
theorem truthy_A {N : Int} {s1 : Shared} (ok : c.Ok n) (hmn : m + 1 ≤ n) (hI : HasI I x dx 178 at_ k) (sp : SpecX c.w c.hb c.W c.U m 145 I [.val (.ref x)] (.int N) I) (h0 : 0 ≤ N) (h1 : N < 2 ^ 63) (S1 : Sta c I ρ s1) :
  wpAny c.M c.A (truthy (.ref x)) (fun b s' => b = (N != 0) ∧ Ext c.U s1 s' ∧ Sta c I ρ s') NoE s1 := by
 revert c I ρ n m k x dx at_ N s1;intros c I ρ n m k x dx at_ N s1 ok hmn hI sp h0 h1 S1
 obtain @⟨ox,od,J⟩ := hasI_inst hI S1
 have X := S1.kin ok
 have key : wpAny c.M c.A (runValue (.builtin "len" ⟨[.ref x],[]⟩)) (fun r s' => ∃ t,r = .int N t ∧ Ext c.U s1 s' ∧ Sta c I ρ s') NoE s1 := by
  refine wpAny_runValue (codeAny_builtin entry_len ?_)
  rw [Around.under_plainId plain_len _]
  unfold Builtin.«len»
  refine wpAny_bind (m := oneArg "len" _) (wpAny_pure ?_)
  refine wpAny_bind (m := callSpecial? (.ref x) (ofString "__len__")) (special_fn X J (show findIn (hd.heap_1 c.w.params) (.ref 178) (ofString "__len__") = some (some (.ref 145)) by k_is) (beq_iff_eq.mp (show isFn (hd.heap_1 c.w.params) (.ref 145) = true by k_is)) (wpAny_mono (spec_go (ρ := ρ) ok (ok.room.le hmn).in1 sp S1) ?_ fun _ _ z => z.elim))
  intros v s2 z
  obtain @⟨t,rfl⟩ := rint z.2.1
  refine wpAny_bind (wpAny_holding (wpAny_pure ?_))
  refine wpAny_bind (wpAny_letGo ?_)
  show wpAny _ _ (if N < 0 then _ else _) _ _ _
  rw [if_neg (by omega)]
  show wpAny _ _ (if N ≥ 2 ^ 63 then _ else _) _ _ _
  rw [if_neg (by omega)]
  exact wpAny_bind (wpAny_mkInt (wpAny_pure ⟨_,rfl,z.1.trans (Ext.tok _ _ _),z.2.2.ext (Ext.tok _ _ _)⟩))
 unfold truthy
 refine wpAny_bind (m := callSpecial? (.ref x) (ofString "__bool__")) (wpAny_bind (wpAny_bind (J.type.here ((looks_findIn X (show findIn (hd.heap_1 c.w.params) (.ref 178) (ofString "__bool__") = some none by k_is)).here (wpAny_pure ?_)))))
 refine wpAny_bind (wpAny_bind (J.type.here ((looks_findIn X (show findIn (hd.heap_1 c.w.params) (.ref 178) (ofString "__len__") = some (some (.ref 145)) by k_is)).here ?_)))
 refine wpAny_bind (fin key fun r s' z => ?_)
 obtain @⟨t,rfl,z1,z2⟩ := z
 exact wpAny_pure ⟨rfl,z1,z2⟩
theorem XE.notA {e : Expr} {pos : Pos} {N : Int} (ok : c.Ok n) (hmn : m + 1 ≤ n) (h : JE c I ρ e (.val (.ref x))) (hI : HasI I x dx 178 at_ k) (sp : SpecX c.w c.hb c.W c.U m 145 I [.val (.ref x)] (.int N) I) (h0 : 0 ≤ N) (h1 : N < 2 ^ 63) :
  XE c I ρ (.UnaryOp .Not e pos) (.bool (N == 0)) I := fun s S => by
 refine wpAny_UnaryOp (fin (h s S) fun v s1 q => ?_)
 rw [rval q.2]
 refine not_of (fin (truthy_A (ρ := ρ) ok hmn hI sp h0 h1 (S.ext q.1)) fun b s2 z => ?_)
 obtain ⟨rfl,z1,z2⟩ := z
 refine ⟨q.1.nil.trans z1,?_,z2⟩
 have : (!(N != 0)) = (N == 0) := by simp [bne]
 rw [this];exact mbool
theorem XE.isspace {o : Expr} {apos pos : Pos} {y : Str} (h : XE c I ρ o (.str y) I')
  (he : ∃ pl,eval (.Call (.Attribute o (ofString "isspace") apos) [] [] pos) c.env = (do
   let ov ← eval o c.env
   standAt apos.atName
   let (f,first) ← holding [ov] (getMethod ov (ofString "isspace") pl)
   callWith pos f first (backTo pos (starEach [] c.env)) []) := by exact ⟨_,rfl⟩) : XE c I ρ (.Call (.Attribute o (ofString "isspace") apos) [] [] pos) (.bool (Txt.isspace y)) I' := fun s S => by
 obtain ⟨pl,he⟩ := he
 refine MethodCall_ (pl := pl) (fin (h s S) fun ov s1 q => ?_) he
 obtain ⟨t,rfl⟩ := rstr q.2.1
 exact GM.isspace (callWith_method0 (SC.isspace ⟨q.1,mbool,q.2.2⟩))
end
end
theorem parts_sum_le : ∀ {ps : List (Str × Str)},(∀ p ∈ ps,p.1.length ≤ 100 ∧ p.2.length ≤ 100) -> 0 ≤ (ps.map partLen).sum ∧ (ps.map partLen).sum ≤ 200 * ps.length
 | [],_ => by simp
 | p :: r,h => by
  have := parts_sum_le fun q hq => h q (List.mem_cons_of_mem _ hq)
  have h1 := h p (List.mem_cons_self ..)
  simp only [List.map_cons,List.sum_cons,List.length_cons,partLen]
  omega
theorem len_bound {σ : FS} (hf : σ.fits) : 0 ≤ σ.len ∧ σ.len < 1000000 := by
 have := parts_sum_le hf.2.1
 have h1 := hf.1
 have h2 := hf.2.2
 unfold FS.len
 omega
noncomputable def FS.onlyws (σ : FS) : Bool := (σ.init == 0) && ((σ.len == 0) || Txt.isspace σ.text)
theorem spec_onlyws {w : World} {hb : Heap} {a : FA} {σ : FS} (g : Amb w hb (fW a) (fW a)) (ha : a.Ok) (hf : σ.fits) :
  SpecX w hb (fW a) (fW a) 5 167 (fI a σ) [.val (.ref a.A)] (.bool σ.onlyws) (fI a σ) := fun A s vs room hst hsz hW hI hR => by
 refine rels1 hR ?_;clear hR;intro v1 r1
 refine' spec_enterX (I := fI a σ) (ρ := [(ofString "self",.val (.ref a.A))]) (binds := [(ofString "self",v1)]) g room hst hsz hW hI ?ho ?hcd ?hbind ⟨rfl,r1,trivial⟩ ?hkind ?hnd ?h ?hco ?hgen ?hk
 case ho => k_is
 case hcd => k_is
 case hbind => rfl
 case hkind => rfl
 case hnd => decide
 case hco => rfl
 case hgen => rfl
 case hk => rfl
 intro A' env s0 L hE ok
 have hE' : (Cx.mk w hb (fW a) (fW a) A' env).env = _ := hE
 have hl := len_bound hf
 refine JS.xret (c := Cx.mk w hb (fW a) (fW a) A' env) (I := fI a σ) (I' := fI a σ) (d := .bool σ.onlyws) ?_ fun v s S r => RQX.ret S r id
 refine XE.and2 (JE.toX (JE.cmp ok (JE.attrL (x := a.A) (dx := a.dA) (C := 178) ok (JE.var ok rfl) fI_acc rfl (OL178 _) (attr := none) (by k_is) (by k_is)) JE.cint BinR.eq)) fun _ => ?_
 refine XE.or2 (XE.notA ok (m := 3) (by decide) (JE.var ok rfl) fI_acc (spec_len g ha hf) hl.1 (by omega)) fun _ => ?_
 exact XE.isspace (XE.strA ok (m := 3) (by decide) (JE.bltn ok (by k_is) boot_str (by decide) (kd hE' rfl)) (JE.var ok rfl) fI_acc (spec_str g ha hf))
section
theorem BinR.netup {a b x y : Str} : BinR (compareOp .NotEq) (.tup [.str a,.str b]) (.tup [.str x,.str y]) (.bool (!(a == x && b == y))) := by
 revert a b x y;intros a b x y
 intros w W A s u v hh hu hW r1 r2
 obtain @⟨T1,vs1,rfl,_,t1,q1⟩ := rtup r1
 obtain @⟨T2,vs2,rfl,_,t2,q2⟩ := rtup r2
 unfold Rels at q1 q2
 obtain @⟨u1,r,rfl,p1,q1⟩ := q1
 obtain @⟨w1,r',rfl,p2,q2⟩ := q2
 unfold Rels at q1 q2
 obtain @⟨u2,r,rfl,p3,q1⟩ := q1
 obtain @⟨w2,r',rfl,p4,q2⟩ := q2
 unfold Rels at q1 q2
 subst q1 q2
 obtain @⟨_,rfl⟩ := rstr p1
 obtain @⟨_,rfl⟩ := rstr p2
 obtain @⟨_,rfl⟩ := rstr p3
 obtain @⟨_,rfl⟩ := rstr p4
 show wpAny _ _ (richCompare .NotEq _ _) _ _ _
 refine SeqAt.RcNeAt.tuples (e := fun j => match j with | 0 => a == x | _ => b == y) t1 t2 (by simp only [cLine];omega) (fun j h1 h2 => ?_) PR w NoE _ ⟨Ext.refl _ _,?_⟩
 ·match j,h1,h2 with
  | 0,_,_ => exact SeqAt.EqAt.str_str _ _ _ _
  | 1,_,_ => exact SeqAt.EqAt.str_str _ _ _ _
  | n + 2,h1,_ => exact absurd h1 (by simp)
 ·have e2 : List.range (min 2 2) = [0,1] := rfl
  have : ∀ t1 t2 t3 t4,(!((List.range (min (List.toArray [Value.str a t1,Value.str b t2]).size (List.toArray [Value.str x t3,Value.str y t4]).size)).all (fun j => match j with | 0 => a == x | _ => b == y) && ((List.toArray [Value.str a t1,Value.str b t2]).size == (List.toArray [Value.str x t3,Value.str y t4]).size))) = !(a == x && b == y) := fun _ _ _ _ => by
   show (!((List.range (min 2 2)).all _ && (2 == 2))) = _
   rw [e2];simp
  rw [this];exact mbool
section
variable {c : Cx} {I I' I1 : Asr c.W} {ρ : List (Str × D)} {n m k : Nat} {s0 : Shared} {Q : Flow -> Shared -> Prop} {rest : List Stmt} {x dx : Addr} {at_ : List (Str × D)}
theorem XE.methStarL {C : Addr} {o e : Expr} {name : Str} {apos pos p : Pos} {ds : List D} {d : D} {f : Addr} (ok : c.Ok n) (hm : m ≤ n) (ho : JE c I ρ o (.val (.ref x))) (hI : HasI I x dx C at_ k) (hat : at_.lookup name = none)
  (OL : OverList (hd.heap_1 c.w.params) C) (hf : findIn (hd.heap_1 c.w.params) (.ref C) name = some (some (.ref f))) (ht : isFn (hd.heap_1 c.w.params) (.ref f) = true) (hk : keepIn (hd.heap_1 c.w.params) (.ref f) = true)
  (ha : JE c I ρ e (.tup ds)) (hz : ds.length ≤ 1000) (sp : SpecX c.w c.hb c.W c.U m f I (.val (.ref x) :: ds) d I')
  (he : ∃ pl,eval (.Call (.Attribute o name apos) [.Starred e p] [] pos) c.env = (do
   let ov ← eval o c.env
   standAt apos.atName
   let (f,first) ← holding [ov] (getMethod ov name pl)
   callWith pos f first (backTo pos (starEach [.Starred e p] c.env)) []) := by exact ⟨_,rfl⟩) :
  XE c I ρ (.Call (.Attribute o name apos) [.Starred e p] [] pos) d I' := fun s S => by
 obtain ⟨pl,he⟩ := he
 refine MethodCall_ (pl := pl) (fin (ho s S) fun ov s1 q => ?_) he
 rw [rval q.2]
 have S1 := S.ext q.1
 refine meth_getL ok S1 hI hat OL hf (beq_iff_eq.mp ht) (by decide +kernel) (callWith_S (h₀ := c.hb) ok.gr.X hk (fin (ha s1 S1) fun v s2 y => ?_))
 obtain ⟨T,vs,rfl,_,⟨o2,e2,c2,n2,d2⟩,hR⟩ := rtup y.2
 have hlen := hR.length
 have S2 := S1.ext y.1
 have z := wpAny_collect_seq (prog := PR) (w := c.w) (A := c.A) (E := NoE) (s := s2) (Q := fun vs' s₂ => (hd.heap_1 c.w.params).In s₂.heap ∧ wpAny c.M c.A (call (.ref f) ([.ref x] ++ vs')) (fun v s' => Ext c.U s s' ∧ Rel c.W s'.heap d v ∧ Sta c I' ρ s') NoE s₂) T (.inr rfl) e2 c2 d2 (fun h' hk' => ?_) (by rw [sizeLine_eq];simp;omega)
 ·unfold StarOf notIterableAtAll
  exact wpAny_bind (wpAny_specialOf ⟨_,e2,c2⟩ PySem.F.slot_tuple_iter.lookup (wpAny_pure ⟨rfl,z⟩))
 ·have e3 : Ext [] s2 { s2 with heap := h' } := ⟨fun b o _ eb => hk' b o eb,rfl,fun z => z⟩
  refine ⟨(S2.ext e3).kin ok,?_⟩
  exact meth_go ok hm sp q.1 S1 vs { s2 with heap := h' } (y.1.trans e3) (hR.ext e3)
theorem XE.appendOwn {o e : Expr} {apos pos : Pos} {L : Addr} {d : D} (ok : c.Ok n) (hU : L ∈ c.U) (ho : JE c I ρ o (.val (.ref L))) (he : XE c I ρ e d I1)
  (h0 : ∀ h,I.P h -> ∃ vs k,h.get? L = some { cls := .type "list",data := .seq (List.toArray vs) k }) (h1 : ∀ h,I1.P h -> ∃ vs k,h.get? L = some { cls := .type "list",data := .seq (List.toArray vs) k } ∧ vs.length ≤ 100000)
  (up : ∀ h h' vs k v,I1.P h -> Heap.SameBut L h h' -> h.get? L = some { cls := .type "list",data := .seq (List.toArray vs) k } -> h'.get? L = some { cls := .type "list",data := .seq (List.toArray (vs ++ [v])) (k + 1) } -> Rel c.W h d v -> I'.P h')
  (hm : ∃ pl,eval (.Call (.Attribute o (ofString "append") apos) [e] [] pos) c.env = (do
   let ov ← eval o c.env
   standAt apos.atName
   let (f,first) ← holding [ov] (getMethod ov (ofString "append") pl)
   callWith pos f first (backTo pos (starEach [e] c.env)) []) := by exact ⟨_,rfl⟩)
  (hst : starEach [e] c.env = (false,eval e c.env) :: starEach [] c.env := by rfl) :
  XE c I ρ (.Call (.Attribute o (ofString "append") apos) [e] [] pos) .non I' := fun s S => by
 obtain ⟨pl,hm⟩ := hm
 refine MethodCall_ (pl := pl) (fin (ho s S) fun ov s1 q => ?_) hm
 rw [rval q.2]
 have S1 := S.ext q.1
 obtain ⟨us,k0,eo⟩ := h0 _ S1.asr
 refine getMethod_list_append eo rfl rfl (callWith_method1 (spliced_more (fin (he s1 S1) fun v s2 q2 => spliced_none ?_) hst) hst)
 obtain ⟨e2,r1,S2⟩ := q2
 obtain ⟨us,k1,eo,hz⟩ := h1 _ S2.asr
 refine append_at eo (fun h' sb eo' => ?_) (by rw [sizeLine_eq];simp;omega)
 have e3 : Ext [L] s2 { s2 with heap := h' } := ⟨fun b o nb eb => sb.extBut b o (fun q => nb (q ▸ List.mem_singleton.mpr rfl)) eb,rfl,fun x => x⟩
 have hin : ∀ b ∈ [L],b ∈ c.U := fun b q => by rw [List.mem_singleton.mp q];exact hU
 have eo2 : h'.get? L = some { cls := .type "list",data := .seq (List.toArray (us ++ [v])) (k1 + 1) } := by rw [eo'];simp
 exact ⟨(q.1.nil.trans e2).trans (e3.mono hin),mnon,S2.upd ok e3 hin (fun b q => by rw [List.mem_singleton.mp q];exact ⟨_,eo'⟩) (up _ _ us k1 v S2.asr sb eo eo2 r1)⟩
theorem JS.xassignPair {x y : Str} {px py tp pos : Pos} {kt : Nat} {e : Expr} {d1 d2 : D} (ok : c.Ok n) (h : XE c I ρ e (.tup [d1,d2]) I') (k : JP c (Sto c I' s0 ((y,d2) :: (x,d1) :: ρ)) rest Q) (hx : StoOk c x) (hy : StoOk c y)
  (hs : swapsWithSole [.Tuple [.Name x px,.Name y py] kt tp] e pos.line c.env = pure false := by rfl) (hw : swappedStores [.Tuple [.Name x px,.Name y py] kt tp] e c.env = pure none := by rfl) :
  JP c (Sto c I s0 ρ) (.Assign [.Tuple [.Name x px,.Name y py] kt tp] e pos :: rest) Q := JP.step fun s S => by
 refine Assign_Tuple (fin (h s S.sta) fun v s1 q => ?_) hs hw
 have S1 : Sto c I' s0 ρ s1 := ⟨S.ext.trans (q.1.mono u_sub),q.2.2⟩
 exact fin (JA.pair ok hx hy s1 v S1.sta q.2.1) fun _ s2 r => k s2 ⟨S1.ext.trans (r.1.mono fv_sub),r.2⟩
theorem JE.isspace {o : Expr} {apos pos : Pos} {y : Str} (h : JE c I ρ o (.str y))
  (he : ∃ pl,eval (.Call (.Attribute o (ofString "isspace") apos) [] [] pos) c.env = (do
   let ov ← eval o c.env
   standAt apos.atName
   let (f,first) ← holding [ov] (getMethod ov (ofString "isspace") pl)
   callWith pos f first (backTo pos (starEach [] c.env)) []) := by exact ⟨_,rfl⟩) : JE c I ρ (.Call (.Attribute o (ofString "isspace") apos) [] [] pos) (.bool (Txt.isspace y)) := fun s S => by
 obtain ⟨pl,he⟩ := he
 refine MethodCall_ (pl := pl) (fin (h s S) fun ov s1 q => ?_) he
 obtain ⟨t,rfl⟩ := rstr q.2
 exact GM.isspace (callWith_method0 (SC.isspace ⟨q.1,mbool⟩))
theorem JI.rangeDown {f e e' e'' : Expr} {pos : Pos} {i : Nat} (ok : c.Ok n) (hf : JE c I ρ f (.val (.type "range"))) (h : JE c I ρ e (.int i)) (h' : JE c I ρ e' (.int 0)) (h'' : JE c I ρ e'' (.int (-1))) (hi : i < 10000)
  (he : starEach [e,e',e''] c.env = (false,eval e c.env) :: starEach [e',e''] c.env := by rfl) (he' : starEach [e',e''] c.env = (false,eval e' c.env) :: starEach [e''] c.env := by rfl) (he'' : starEach [e''] c.env = (false,eval e'' c.env) :: starEach [] c.env := by rfl)
  (hq : eval (.Call f [e,e',e''] [] pos) c.env = (do callWith pos (← eval f c.env) [] (backTo pos (starEach [e,e',e''] c.env)) (backToKw pos (keywordEach [] c.env))) := by rfl)
  (hplain : ∀ pos,(backTo pos (starEach [e',e''] c.env)).any (·.1) = false := by intro _;rfl) : JI c I ρ (.Call f [e,e',e''] [] pos) (rangeL i (-1) i) := by
 revert c I ρ n f e e' e'' pos i;intros c I ρ n f e e' e'' pos i ok hf h h' h'' hi he he' he'' hq hplain
 intros s S
 refine Call_bltn ok hf (.inl ⟨_,rfl⟩) (JEs.cons h (JEs.cons h' (JEs.cons h'' JEs.nil he'') he') he) S ?_ he hplain hq
 intros vs s1 e1 r
 refine rels3 r ?_;clear r;intros v v' v'';intro r1 r3 r4
 obtain @⟨t,rfl⟩ := rint r1
 obtain @⟨t',rfl⟩ := rint r3
 obtain @⟨t'',rfl⟩ := rint r4
 refine call_range_3 (by decide) ?_ (Or.inl (PyProof.noPylong_small (by omega)))
 have e2 : Ext [] s { s1 with heap := s1.heap.push { cls := .type "range",data := .fields #[.int i t,.int 0 t',.int (-1) t''] },toks := s1.toks } := e1.trans ⟨fun _ _ _ e => Heap.get?_push_of_some _ e,rfl,fun x => x⟩
 refine fin (iter_range ok.room.hh e2 (IsRange.new ..) ?_ (m := i) ?_) fun it s3 z => z
 ·simp only [Builtin.Range.small,Builtin.Range.rangeFitsLong,Builtin.Range.rangeSize]
  by_cases h0 : i = 0
  ·subst h0;simp
  ·have : (i : Int) > 0 := by omega
   simp [this];omega
 ·simp only [Builtin.Range.rangeSize]
  by_cases h0 : i = 0
  ·subst h0;simp
  ·have : (i : Int) > 0 := by omega
   simp [this]
   omega
end
theorem fP_lines {a : FA} (ha : a.Ok) {σ : FS} {h h' : Heap} {vs : List Value} {m m' : Nat} {y : Str} {v : Value} (x : fP a σ h) (sb : Heap.SameBut a.L h h') (e : h.get? a.L = some { cls := .type "list",data := .seq (List.toArray vs) m })
  (e' : h'.get? a.L = some { cls := .type "list",data := .seq (List.toArray (vs ++ [v])) m' }) (r : Rel (fW a) h (.str y) v) : fP a { σ with lines := σ.lines ++ [y] } h' := by
 revert a σ h h' vs m m' y v;intros a ha σ h h' vs m m' y v x sb e e' r
 have kp : ∀ b o,b ∉ [a.L] -> h.get? b = some o -> h'.get? b = some o := fun b o nb eb => sb.extBut b o (fun q => nb (q ▸ List.mem_singleton.mpr rfl)) eb
 have hv : ∀ b ∈ [a.L],b ∈ fW a ∨ NoSeq h b := fun b q => .inl (by rw [List.mem_singleton.mp q];simp)
 obtain @⟨x1,x2,x3,x4,x5⟩ := x
 have nd := ha.nd
 simp only [List.nodup_cons,List.mem_cons,not_or,List.not_mem_nil,not_false_eq_true,and_true] at nd
 obtain @⟨⟨_,f2,_,_,f5,f6⟩,⟨g2,_,_,g5,g6⟩,⟨l3,l4,l5,l6⟩,_⟩ := nd
 refine ⟨x1.move kp hv (by simpa using Ne.symm l3) (by simpa using Ne.symm l4),x2.move (by simpa using f2) (by simpa using g2) hv kp,?_,x4.move kp (by simpa using Ne.symm l5),x5.move kp (by simpa using Ne.symm l6)⟩
 obtain @⟨us,k,e2,rr⟩ := x3
 rw [e] at e2
 have e3 : us = vs := by injection e2 with e2;injection e2 with _ _ e2 _;injection e2 with e2 _;simpa using e2.symm
 subst e3
 refine ⟨us ++ [v],m',e',?_⟩
 rw [List.map_append]
 refine Rels.append (rr.move kp hv) ?_
 show Rels _ _ [.str y] _
 unfold Rels
 exact ⟨v,[],rfl,r.move kp hv,by unfold Rels;rfl⟩
end
section
open Builtin Builtin.ObjectAttr Builtin.Getset_descriptor
noncomputable abbrev retOf (Q : Value -> Shared -> Prop) : Result -> Shared -> Prop := fun r s' => match r with | .ok (.ret v) => Q v s' | .ok _ => False | .error e => NoE e s'
theorem spec_enterXC {m : Nat} {f : Addr} {d : D} {ρ : List (Str × D)} {w : World} {hb : Heap} {W U : List Addr} {I I' : Asr W} {A : Around} {s : Shared} {vs : List Value} {binds : List (Str × Value)}
  {name qual : Str} {params : Arguments} {body : List Stmt} {scope : Scope} {dV kV doc pm cdv ct oc : Value} {an od : Option Addr} {osl : Array (Option Value)}
  (g : Amb w hb W U) (room : Room A (m + 1)) (hst : hb.StaysIn s.heap) (hsz : hb.objs.size ≤ s.heap.objs.size) (hW : WIn W s.heap) (hI : I.P s.heap)
  (ho : (hd.heap_1 w.params).lookup f = some ⟨oc,od,.func (fnOf name qual params body scope dV kV doc pm an cdv ct),osl⟩) (hcd : codeIn (hd.heap_1 w.params) cdv qual = true)
  (hbind : bindArgs (fnOf name qual params body scope dV kV doc pm an cdv ct) ⟨vs,[]⟩ = pure binds) (hρ : BRel W s.heap ρ binds.reverse)
  (hkind : (binds.all fun y => scope.names.lookup y.1 == some .local || scope.names.lookup y.1 == some .cell) = true)
  (hnd : ((cellsFrom 0 scope.names []).map (·.1)).Nodup)
  (h : ∀ (A' : Around) (env : Env) (s0 : Shared) (L : Addr),env = envOfC qual scope L f cdv -> (Cx.mk w hb W U A' env).Ok m -> JP (Cx.mk w hb W U A' env) (Sto (Cx.mk w hb W U A' env) I s0 ρ) body (RQX (Cx.mk w hb W U A' env) s0 d I'))
  (hco : scope.isCoroutine = false) (hgen : scope.isGenerator = false) (hk : scope.kind = .function) :
  codeAny (model PR w) A (.call (.ref f) ⟨vs,[]⟩) (retOf fun v s' => Ext U s s' ∧ Rel W s'.heap d v ∧ WIn W s'.heap ∧ I'.P s'.heap) s := by
 obtain ⟨p,loose,mg,mb,T⟩ := g.g.T
 refine codeAny_call_cells (fd := fnOf name qual params body scope dV kV doc pm an cdv ct) (by have := room.dp;simp only [recursionLimit];omega) (hst _ _ (g.g.X _ _ ho)) rfl (T.nolimit.keeps hst) (codeRec_of (K := hd.heap_1 w.params) (fun a o e => hst a o (g.g.X a o e)) hcd) rfl hbind rfl
  (fun x hx => kindsX hkind _ x hx) (fun s0 X => ?_) hco hgen hk
 have henv : callEnvC (fnOf name qual params body scope dV kV doc pm an cdv ct) s.heap.objs.size f = envOfC qual scope s.heap.objs.size f cdv := rfl
 rw [henv] at X ⊢
 obtain ⟨h0,tk,rfl,hkp⟩ := X.done
 have e0 : Ext [] s { s with heap := h0,toks := tk } := ⟨fun b o _ => hkp b o,rfl,fun x => x⟩
 have hLW : s.heap.objs.size ∉ W := hW.fresh
 have above : ∀ n a,(n,a) ∈ (envOfC qual scope s.heap.objs.size f cdv).cells -> s.heap.objs.size < a := X.above
 have okc : Cx.Ok ⟨w,hb,W,U,A.deeper (envOfC qual scope s.heap.objs.size f cdv),envOfC qual scope s.heap.objs.size f cdv⟩ m := by
  refine ⟨g.g,⟨hk,X.apart,fun n a hm => Nat.ne_of_gt (above n a hm),fun n a hm _ => ?_,rfl,rfl⟩,⟨room.hh,?_,?_⟩,g.sub,g.wh⟩
  ·cases e : hb.get? a with
   | none => rfl
   | some o => exact absurd (Nat.lt_of_lt_of_le (Heap.lt_size e) hsz) (Nat.not_lt.mpr (Nat.le_of_lt (above n a hm)))
  ·have := room.dp;simp only [Around.deeper];omega
  ·have := room.un;simp only [Around.deeper];omega
 have S0 : Sta ⟨w,hb,W,U,A.deeper (envOfC qual scope s.heap.objs.size f cdv),envOfC qual scope s.heap.objs.size f cdv⟩ I ρ { s with heap := h0,toks := tk } := by
  refine ⟨⟨⟨_,⟨X.toInCall.ns,fun b o e => hkp b o (hst b o e),hsz⟩,fun x d e => ?_⟩,fun n a hm => ?_,hLW⟩,hW.ext e0,I.st [] _ _ e0.keep (fun _ q => nomatch q) hI⟩
  ·obtain ⟨v,hv,r⟩ := hρ.look e
   have hmem := mem_of_lookup hv
   have hkx := List.all_eq_true.mp hkind (x,v) (List.mem_reverse.mp hmem)
   by_cases hl : scope.names.lookup x = some .local
   ·exact .inl ⟨hl,v,by rw [bindL_look hl,hv];rfl,r.ext e0⟩
   ·have hc : scope.names.lookup x = some .cell := by simpa [hl] using hkx
    have hcl := (kindsX hkind (s.heap.objs.size + 1) (x,v) (List.mem_reverse.mp hmem)).resolve_left hl
    obtain ⟨a,ha⟩ := Option.isSome_iff_exists.mp hcl.2
    refine .inr ⟨.inl hc,a,v,ha,?_,r.ext e0⟩
    have := X.cell x a ha
    rw [bindC_look (by show scope.names.lookup x ≠ _;rw [hc];decide),hv] at this
    exact this
  ·refine ⟨?_,fun q => ?_⟩
   ·exact ⟨_,X.cell n a (look_of_mem (by show ((cellsFrom (s.heap.objs.size + 1) scope.names []).map (·.1)).Nodup;rw [cells_names _ 0 scope.names [] [] rfl];exact hnd) hm)⟩
   ·obtain ⟨o,e⟩ := hW a q
    exact absurd (Nat.lt_trans (Heap.lt_size e) (above n a hm)) (Nat.lt_irrefl _)
 refine fin (h _ _ _ s.heap.objs.size rfl okc _ ⟨Ext.refl _ _,S0⟩) fun fl s' r => ?_
 obtain ⟨v,hv,e,rr,hw,hi⟩ := r
 have e2 : Ext U s s' := ⟨fun b o nb eb => e.keep b o (fun q => ?_) (hkp b o eb),e.os,e.gens⟩
 ·rcases hv with rfl | ⟨rfl,rfl⟩ <;> exact ⟨e2,rr,hw,hi⟩
 ·have hlt := Heap.lt_size eb
  rcases List.mem_append.mp q with q | q
  ·exact nb q
  ·rcases List.mem_cons.mp q with q | q
   ·subst q;exact absurd hlt (Nat.lt_irrefl _)
   ·obtain ⟨⟨n,a⟩,hm,rfl⟩ := List.mem_map.mp q
    exact absurd (Nat.lt_trans hlt (above n a hm)) (Nat.lt_irrefl _)
noncomputable def SpecC (w : World) (hb : Heap) (W U : List Addr) (m : Nat) (f : Addr) (I : Asr W) (ds : List D) (d : D) (I' : Asr W) : Prop :=
 ∀ (A : Around) (s : Shared) (vs : List Value),Room A m -> hb.StaysIn s.heap -> hb.objs.size ≤ s.heap.objs.size -> WIn W s.heap -> I.P s.heap -> Rels W s.heap ds vs ->
  codeAny (model PR w) A (.call (.ref f) ⟨vs,[]⟩) (retOf fun v s' => Ext U s s' ∧ Rel W s'.heap d v ∧ WIn W s'.heap ∧ I'.P s'.heap) s
section
variable {w : World} {A : Around} {s : Shared} {K : Frag} {x C f : Addr} {ox : Obj} {od : Option Obj} {name : Str} {expr : Bool}
theorem get_boundL {Q : Value -> Shared -> Prop} (X : K.In s.heap) (I : InstAt s.heap x ox C od) (hga : findIn K (.ref C) "__getattribute__" = some (some (.builtin "list.__getattribute__"))) (hk : findIn K (.ref C) "__getattr__" = some none)
  (hin : mroIn K C (.type "list") = some true) (hf : findObj K C od name = some (.bind (.builtin "function.__get__") (.ref f))) (ht : typeIn K (.ref f) = some (.type "function"))
  (h : Q (.ref s.heap.objs.size) { s with heap := s.heap.push (methodObj (.ref f) (.ref x)),toks := s.toks + 1 }) : wpAny (model PR w) A (getAttr (.ref x) name expr) Q NoE s := by
 obtain ⟨hh',g,d,t,os⟩ := s
 have L0 := I.type (M := model PR w)
 have L1 := looks_findIn (M := model PR w) X hga
 have L2 := looks_findIn (M := model PR w) X hk
 have L3 := looks_find (M := model PR w) X I hf
 have L4 : Looks (model PR w) hh' (isInstance (.ref x) (.type "list")) true := L0.andThen (looks_mroIn X hin)
 unfold getAttr getAttrBy
 refine wpAny_bind (wpAny_mkText (wpAny_holding (wpAny_bind (L0.at (wpAny_bind (L1.at ?_))))))
 show wpAny _ _ (getAttrByItsOwn (.ref x) (.str name t) (.ref C) (.builtin "list.__getattribute__") true expr) _ _ _
 unfold getAttrByItsOwn hookBefore callGetattribute boundAndCalled
 refine wpAny_bind ?_
 show wpAny _ _ (typeLookup (.ref C) "__getattr__") _ _ _
 refine L2.at ?_
 refine wpAny_bind (wpAny_attempt (wpAny_holding ?_))
 have e1 : (expr && onTheHeap (.builtin "list.__getattribute__")) = false := by cases expr <;> rfl
 rw [e1]
 simp only [Bool.false_eq_true,if_false]
 refine wpAny_bind (wpAny_of_eq (F.slot_list_getattribute.bind (.ref x)) ?_)
 refine wpAny_call (codeAny_call_builtin F.slot_list_getattribute.plain F.entry_list_ga (@check_slot (model PR w) _ _ _ "list.__getattribute__" "list" "__getattribute__" (.ref x) [.str name t] [] _ kind_lga split_lga L4 (F.args_list_getattribute_2 _ _) ?_))
 refine wpAny_bind (wpAny_pure (wpAny_bind (wpAny_pure (wpAny_bind (L0.at (wpAny_bind (L3.at ?_)))))))
 refine wpAny_bind (wpAny_holding (wpAny_call (fn_get (s := ⟨hh',g,d,t + 1,os⟩) X ht ?_)))
 refine wpAny_pure ?_
 show wpAny _ _ (handedOut (.ref hh'.objs.size)) _ _ _
 rw [handedOut_of rfl];exact wpAny_pure h
end
section
variable {c : Cx} {I I' : Asr c.W} {ρ : List (Str × D)} {n m k : Nat} {x dx : Addr} {at_ : List (Str × D)}
theorem XE.starL {C : Addr} {o e : Expr} {name : Str} {apos pos p : Pos} {ds : List D} {d : D} {f : Addr} (ok : c.Ok n) (hm : m ≤ n) (ho : JE c I ρ o (.val (.ref x))) (hI : HasI I x dx C at_ k) (hat : at_.lookup name = none)
  (OL : OverList (hd.heap_1 c.w.params) C) (hf : findIn (hd.heap_1 c.w.params) (.ref C) name = some (some (.ref f))) (ht : isFn (hd.heap_1 c.w.params) (.ref f) = true) (hfn : fnIn (hd.heap_1 c.w.params) f = true)
  (hgf : specialIn (hd.heap_1 c.w.params) (.ref f) "__get__" = some (some (.builtin "function.__get__"))) (htk : takesIn (hd.heap_1 c.w.params) (.ref f) = some false) (hc : copiedNames.contains name = false)
  (ha : JE c I ρ e (.tup ds)) (hz : ds.length ≤ 1000) (sp : SpecC c.w c.hb c.W c.U m f I (.val (.ref x) :: ds) d I')
  (he : eval (.Call (.Attribute o name apos) [.Starred e p] [] pos) c.env = (do
   let ov ← eval o c.env
   standAt apos.atName
   let (f,first) ← holding [ov] (do pure (← getAttr ov name true,[]))
   callWith pos f first (backTo pos (starEach [.Starred e p] c.env)) []) := by rfl) :
  XE c I ρ (.Call (.Attribute o name apos) [.Starred e p] [] pos) d I' := fun s S => by
 rw [he]
 refine wpAny_bind (fin (ho s S) fun ov s1 q => wpAny_bind (wpAny_standAt (wpAny_bind (wpAny_holding (wpAny_bind ?_)))))
 rw [rval q.2]
 have S1 := S.ext q.1
 obtain ⟨dat,hcd,J⟩ := hI _ S1.asr
 obtain ⟨es,k',J,_,hl⟩ := J.inst hcd
 have h1 := (hl name).1 hat
 refine get_boundL (f := f) (S1.kin ok) J OL.ga OL.hk OL.ml (findObj_fn OL.hd hf hgf htk hc ((lookIn_dict _ _ _).trans h1)) (beq_iff_eq.mp ht) (wpAny_pure ?_)
 have eq : Ext [] s1 { s1 with heap := s1.heap.push (methodObj (.ref f) (.ref x)),toks := s1.toks + 1 } := ⟨fun b o _ eb => Heap.get?_push_of_some _ eb,rfl,fun z => z⟩
 have Sq := S1.ext eq
 have hq : (s1.heap.push (methodObj (.ref f) (.ref x))).get? s1.heap.objs.size = some (methodObj (.ref f) (.ref x)) := Heap.get?_push_size _ rfl
 show wpAny _ _ (callWith pos (.ref s1.heap.objs.size) [] (backTo pos (starEach [.Starred e p] c.env)) []) _ _ _
 refine ks_call (P := MethP (hd.heap_1 c.w.params) s1.heap.objs.size f (.ref x)) rfl (keeps_M hfn) (ks_lone (fin (ha _ Sq) fun v s2 y => ?_))
 obtain ⟨T,vs,rfl,_,⟨o2,e2,c2,n2,d2⟩,hR⟩ := rtup y.2
 have hlen := hR.length
 have S2 := Sq.ext y.1
 have z := wpAny_collect_seq (prog := PR) (w := c.w) (A := c.A) (E := NoE) (s := s2) (Q := fun vs' s₂ => MethP (hd.heap_1 c.w.params) s1.heap.objs.size f (.ref x) s₂.heap ∧ wpAny c.M c.A (call (.ref s1.heap.objs.size) ([] ++ vs')) (fun v s' => Ext c.U s s' ∧ Rel c.W s'.heap d v ∧ Sta c I' ρ s') NoE s₂) T (.inr rfl) e2 c2 d2 (fun h' hk' => ?_) (by rw [sizeLine_eq];simp;omega)
 ·unfold StarOf notIterableAtAll
  exact wpAny_bind (wpAny_specialOf ⟨_,e2,c2⟩ PySem.F.slot_tuple_iter.lookup (wpAny_pure ⟨rfl,z⟩))
 ·have e3 : Ext [] s2 { s2 with heap := h' } := ⟨fun b o _ eb => hk' b o eb,rfl,fun z => z⟩
  have S3 := S2.ext e3
  have hq3 := e3.all _ _ (y.1.all _ _ hq)
  refine ⟨⟨hq3,S3.kin ok⟩,?_⟩
  refine wpAny_call (method_call hq3 ?_)
  have r3 : Rels c.W ({ s2 with heap := h' } : Shared).heap (.val (.ref x) :: ds) (.ref x :: vs) := by unfold Rels;exact ⟨_,_,rfl,mval,hR.ext e3⟩
  refine codeAny_mono (sp c.A { s2 with heap := h' } _ (ok.room.le hm) S3.stays.1 S3.stays.2 S3.win S3.asr r3) fun r s4 zz => ?_
  rcases r with e | fl
  ·exact zz.elim
  ·cases fl with
   | ret v =>
    obtain ⟨z1,z2,z3,z4⟩ := zz
    exact ⟨((q.1.trans eq).trans (y.1.trans e3)).nil.trans z1,z2,S3.upd ok z1 (fun b hb => hb) (fun b hb => z3 b (ok.sub b hb)) z4⟩
   | _ => exact zz.elim
end
end
section
section
variable {w : World} {hb : Heap} {a : FA} {σ : FS} {U : List Addr} {A' : Around} {env : Env} {n : Nat} {ρ : List (Str × D)} {p1 p2 : Pos}
theorem je_cur (ok : (Cx.mk w hb (fW a) U A' env).Ok n) (hρ : ρ.lookup (ofString "self") = some (.val (.ref a.F))) : JE (Cx.mk w hb (fW a) U A' env) (fI a σ) ρ (.Attribute (.Name (ofString "self") p1) (ofString "_current_line") p2) (.val (.ref a.A)) :=
 JE.attr (x := a.F) (dx := a.dF) (C := 94) (attr := none) ok (JE.var ok hρ) fI_for rfl (by k_is) (by k_is) (by k_is) (by k_is)
theorem je_lines (ok : (Cx.mk w hb (fW a) U A' env).Ok n) (hρ : ρ.lookup (ofString "self") = some (.val (.ref a.F))) : JE (Cx.mk w hb (fW a) U A' env) (fI a σ) ρ (.Attribute (.Name (ofString "self") p1) (ofString "_lines") p2) (.val (.ref a.L)) :=
 JE.attr (x := a.F) (dx := a.dF) (C := 94) (attr := none) ok (JE.var ok hρ) fI_for rfl (by k_is) (by k_is) (by k_is) (by k_is)
theorem je_max (ok : (Cx.mk w hb (fW a) U A' env).Ok n) (hρ : ρ.lookup (ofString "self") = some (.val (.ref a.F))) : JE (Cx.mk w hb (fW a) U A' env) (fI a σ) ρ (.Attribute (.Name (ofString "self") p1) (ofString "_maxlen") p2) (.int a.maxlen) :=
 JE.attr (x := a.F) (dx := a.dF) (C := 94) (attr := none) ok (JE.var ok hρ) fI_for rfl (by k_is) (by k_is) (by k_is) (by k_is)
theorem je_split (ok : (Cx.mk w hb (fW a) U A' env).Ok n) (hρ : ρ.lookup (ofString "self") = some (.val (.ref a.F))) : JE (Cx.mk w hb (fW a) U A' env) (fI a σ) ρ (.Attribute (.Name (ofString "self") p1) (ofString "_splitchars") p2) (.str a.liked) :=
 JE.attr (x := a.F) (dx := a.dF) (C := 94) (attr := none) ok (JE.var ok hρ) fI_for rfl (by k_is) (by k_is) (by k_is) (by k_is)
end
theorem fI_lin {a : FA} {σ : FS} (hz : σ.lines.length ≤ 100000) : ∀ h,(fI a σ).P h -> ∃ vs k,h.get? a.L = some { cls := .type "list",data := .seq (List.toArray vs) k } ∧ vs.length ≤ 100000 := fun h ⟨_,_,⟨vs,m,e,r⟩,_⟩ => ⟨vs,m,e,by have := r.length;simp at this;omega⟩
theorem fI_lin0 {a : FA} {σ : FS} : ∀ h,(fI a σ).P h -> ∃ vs k,h.get? a.L = some { cls := .type "list",data := .seq (List.toArray vs) k } := fun h ⟨_,_,⟨vs,m,e,r⟩,_⟩ => ⟨vs,m,e⟩
theorem xe_emit {w : World} {hb : Heap} {a : FA} {σ : FS} {A' : Around} {env : Env} {n : Nat} {ρ : List (Str × D)} {p1 p2 p3 p4 p5 p6 p7 p8 : Pos} (g : Amb w hb (fW a) (fW a)) (ha : a.Ok) (hf : σ.fits) (hz : σ.lines.length ≤ 1000)
  (ok : (Cx.mk w hb (fW a) (fW a) A' env).Ok n) (hn : 4 ≤ n) (hρ : ρ.lookup (ofString "self") = some (.val (.ref a.F))) (hs : env.kindOf (ofString "str") = some .globalImplicit)
  (hm : ∃ pl,eval (.Call (.Attribute (.Attribute (.Name (ofString "self") p1) (ofString "_lines") p2) (ofString "append") p3) [.Call (.Name (ofString "str") p4) [.Attribute (.Name (ofString "self") p5) (ofString "_current_line") p6] [] p7] [] p8) env = (do
   let ov ← eval (.Attribute (.Name (ofString "self") p1) (ofString "_lines") p2) env
   standAt p3.atName
   let (f,first) ← holding [ov] (getMethod ov (ofString "append") pl)
   callWith p8 f first (backTo p8 (starEach [.Call (.Name (ofString "str") p4) [.Attribute (.Name (ofString "self") p5) (ofString "_current_line") p6] [] p7] env)) []) := by exact ⟨_,rfl⟩) :
  XE (Cx.mk w hb (fW a) (fW a) A' env) (fI a σ) ρ (.Call (.Attribute (.Attribute (.Name (ofString "self") p1) (ofString "_lines") p2) (ofString "append") p3) [.Call (.Name (ofString "str") p4) [.Attribute (.Name (ofString "self") p5) (ofString "_current_line") p6] [] p7] [] p8) .non (fI a { σ with lines := σ.lines ++ [σ.text] }) :=
 XE.appendOwn (L := a.L) (d := .str σ.text) (I1 := fI a σ) ok (by simp) (je_lines ok hρ) (XE.strA ok (m := 3) hn (JE.bltn ok (by k_is) boot_str (by decide) hs) (je_cur ok hρ) fI_acc (spec_str g ha hf)) fI_lin0 (fI_lin (by omega))
  (fun h h' vs k v x sb e e' r => fP_lines ha x sb e e' r) hm
theorem spec_pushC {w : World} {hb : Heap} {a : FA} {σ : FS} (g : Amb w hb (fW a) (fW a)) (ha : a.Ok) (x y : Str) (hz : σ.parts.length ≤ 1000) :
  SpecC w hb (fW a) (fW a) 1 122 (fI a σ) [.val (.ref a.A),.str x,.str y] .non (fI a (σ.push (x,y))) := fun A s vs room hst hsz hW hI hR => by
 refine rels3 hR ?_;clear hR;intro v1 v2 v3 r1 r2 r3
 refine' spec_enterXC (I := fI a σ) (ρ := [(ofString "string",.str y),(ofString "fws",.str x),(ofString "self",.val (.ref a.A))]) (binds := [(ofString "self",v1),(ofString "fws",v2),(ofString "string",v3)]) g room hst hsz hW hI ?ho ?hcd ?hbind ⟨rfl,r3,rfl,r2,rfl,r1,trivial⟩ ?hkind ?hnd ?h ?hco ?hgen ?hk
 case ho => k_is
 case hcd => k_is
 case hbind => rfl
 case hkind => rfl
 case hnd => decide
 case hco => rfl
 case hgen => rfl
 case hk => rfl
 intro A' env s0 L hE ok
 have hE' : (Cx.mk w hb (fW a) (fW a) A' env).env = _ := hE
 refine' JS.xex (c := Cx.mk w hb (fW a) (fW a) A' env) (I := fI a σ) (I' := fI a (σ.push (x,y))) (XE.appendL (x := a.A) (dx := a.dA) (C := 178) (d := partD (x,y)) ok ?u1 ?u2 fI_acc ?u3 (OL178 _) ?u4 ?u5 ?u6 ?u7 ?u8) ?k ok
 case u1 => simp
 case u2 => exact JE.var ok rfl
 case u3 => rfl
 case u4 => k_is
 case u5 => k_is
 case u6 => unfold partD;exact JE.tup (JEs.cons (JE.var ok rfl) (JEs.cons (JE.var ok rfl) JEs.nil))
 case u7 => exact fun h ⟨⟨vs,m,e,r,_⟩,_⟩ => ⟨_,m,e,by have := r.length;simp at this ⊢;omega⟩
 case u8 =>
  intro h h' its m v hP sb e e' r
  have kp : ∀ b o,b ∉ [a.A] -> h.get? b = some o -> h'.get? b = some o := fun b o nb eb => sb.extBut b o (fun q => nb (q ▸ List.mem_singleton.mpr rfl)) eb
  have hv : ∀ b ∈ [a.A],b ∈ fW a ∨ NoSeq h b := fun b q => .inl (by rw [List.mem_singleton.mp q];simp)
  refine fP_acc ha hP kp (fun b q => .inl (List.mem_singleton.mp q)) ?_
  obtain ⟨⟨vs,m',e2,rr,hi⟩,_⟩ := hP
  rw [e] at e2
  cases e2
  have hne : a.dA ≠ a.A := by have := ha.nd;simp only [List.nodup_cons,List.mem_cons,not_or] at this;exact fun q => this.2.2.2.1.1 q.symm
  obtain ⟨es,n',i1,i2,i3,i4⟩ := hi
  refine ⟨vs ++ [v],m + 1,by rw [e'];simp,?_,es,n',by rw [e'];simp,kp _ _ (by simpa using hne) i2,i3,fun y => ⟨(i4 y).1,fun d q => let ⟨u,a1,a2,a3⟩ := (i4 y).2 d q;⟨u,a1,a2.move kp hv,a3⟩⟩⟩
  rw [List.map_append]
  refine (rr.move kp hv).append ?_
  simp only [List.map_cons,List.map_nil]
  unfold Rels
  exact ⟨v,[],rfl,r.move kp hv,by unfold Rels;rfl⟩
 case k => exact JP.nil fun s S => RQX.next S id
noncomputable def FS.again (σ : FS) : FS := (σ.pop).push σ.top
noncomputable def FS.newl (σ : FS) : FS := { lines := σ.lines ++ [σ.again.text],parts := [],init := 0 }
theorem again_fits {σ : FS} (hf : σ.fits) : σ.again.fits := by
 obtain ⟨h1,h2,h3⟩ := hf
 have ht : σ.top.1.length ≤ 100 ∧ σ.top.2.length ≤ 100 := by
  unfold FS.top
  cases h : σ.parts.getLast? with
  | none => exact ⟨by decide,by decide⟩
  | some p => exact h2 p (List.mem_of_getLast? h)
 refine ⟨?_,fun p hp => ?_,h3⟩
 ·show (σ.parts.dropLast ++ [σ.top]).length ≤ 900
  simp;omega
 ·rcases List.mem_append.mp (show p ∈ σ.parts.dropLast ++ [σ.top] from hp) with q | q
  ·exact h2 p (List.dropLast_subset _ q)
  ·rw [List.mem_singleton.mp q];exact ht
set_option maxHeartbeats 2000000 in
theorem spec_newline {w : World} {hb : Heap} {a : FA} {σ : FS} (g : Amb w hb (fW a) (fW a)) (ha : a.Ok) (hf : σ.fits) (hz : σ.lines.length ≤ 900) (hp : σ.parts.length ≤ 890)
  (hne : (σ.top.1 == ofString " " && σ.top.2 == ofString "") = false) (hpos : 0 < σ.again.len) (hws : σ.again.onlyws = false) :
  SpecX w hb (fW a) (fW a) 7 56 (fI a σ) [.val (.ref a.F)] .non (fI a σ.newl) := by
 revert w hb a σ;intros w hb a σ g ha hf hz hp hne hpos hws
 intros A s vs room hst hsz hW hI hR
 refine rels1 hR ?_;clear hR;intros v1;intro r1
 refine' spec_enterX (I := fI a σ) (ρ := [(ofString "self",.val (.ref a.F))]) (binds := [(ofString "self",v1)]) g room hst hsz hW hI ?ho ?hcd ?hbind ⟨rfl,r1,trivial⟩ ?hkind ?hnd ?h ?hco ?hgen ?hk
 case ho => k_is
 case hcd => k_is
 case hbind => rfl
 case hkind => rfl
 case hnd => decide
 case hco => rfl
 case hgen => rfl
 case hk => rfl
 intros A' env s0 L hE ok
 have hE' : (Cx.mk w hb (fW a) (fW a) A' env).env = _ := hE
 have hfa := again_fits hf
 have hl := len_bound hfa
 have hpl : σ.pop.parts.length ≤ 900 := by show σ.parts.dropLast.length ≤ 900;simp;omega
 refine JS.xassign (c := Cx.mk w hb (fW a) (fW a) A' env) (I := fI a σ) (I' := fI a σ.pop) (d := partD σ.top) ok (XE.methL0 (x := a.A) (dx := a.dA) (C := 178) (m := 2) ok (by decide) (je_cur ok rfl) fI_acc rfl (OL178 _) (by k_is) (by k_is) (by k_is) (spec_pop g ha (by omega))) ?_ (kl hE' rfl)
 refine JS.iff (q := true) (JT.cmp (a := partD σ.top) (b := .tup [.str (ofString " "),.str (ofString "")]) ok (JE.var ok rfl) (JE.tup (JEs.cons JE.cstr (JEs.cons JE.cstr JEs.nil rfl) rfl) (by simp)) ?ne (by with_unfolding_all rfl)) (fun _ => ?_) (fun q => by cases q)
 case ne =>
  have := BinR.netup (a := σ.top.1) (b := σ.top.2) (x := ofString " ") (y := ofString "")
  rw [hne] at this
  exact this
 refine JS.xex (I' := fI a σ.again) (XE.starL (x := a.A) (dx := a.dA) (C := 178) (m := 1) (f := 122) (ds := [.str σ.top.1,.str σ.top.2]) ok (by decide) (je_cur ok rfl) fI_acc rfl (OL178 _) (by k_is) (by k_is) (by k_is) (by k_is) (by k_is) (by decide) (JE.var ok rfl) (by simp) (spec_pushC g ha σ.top.1 σ.top.2 (by omega))) (JP.next ?_) ok
 refine JS.xif (I' := fI a σ.again) (q := true) (XT.cmp (a := .int σ.again.len) (b := .int 0) ok (XE.lenA (m := 3) ok (by decide) (JE.bltn ok (by k_is) boot_len (by decide) (kd hE' rfl)) (je_cur ok rfl) fI_acc (spec_len g ha hfa) hl.1 (by omega)) JE.cint ?gt (by with_unfolding_all rfl)) (fun _ => ?_) (fun q => by cases q)
 case gt =>
  have := BinR.gt (a := σ.again.len) (b := 0)
  rw [decide_eq_true hpos] at this
  exact this
 refine JS.xif (I' := fI a σ.again) (q := σ.again.onlyws && true) (XT.and (XT.plain (d := .bool σ.again.onlyws) ok (XE.methL0 (x := a.A) (dx := a.dA) (C := 178) (m := 5) ok (by decide) (je_cur ok rfl) fI_acc rfl (OL178 _) (by k_is) (by k_is) (by k_is) (spec_onlyws g ha hfa)) TruR.bool) fun q => ?_) ?_ ?_
 ·rw [hws] at q;cases q
 ·intros q
  rw [hws] at q;cases q
 intros _
 refine JS.xex (I' := fI a { σ.again with lines := σ.lines ++ [σ.again.text] }) (xe_emit g ha hfa (by show σ.lines.length ≤ 1000;omega) ok (by decide) rfl (kd hE' rfl)) (JP.next (JP.next ?_)) ok
 refine JS.xex (I' := fI a σ.newl) (XE.methL0 (x := a.A) (dx := a.dA) (C := 178) (m := 1) ok (by decide) (je_cur ok rfl) fI_acc rfl (OL178 _) (by k_is) (by k_is) (by k_is) (spec_reset (σ := { σ.again with lines := σ.lines ++ [σ.again.text] }) g ha [] [] (.inl ⟨rfl,rfl⟩) hfa.1 (by simp))) ?_ ok
 exact JP.nil fun s S => RQX.next S id
end
section
theorem find_step {α : Type} {l : List α} {p : α -> Bool} {i : Nat} {d : α} (h : (l.take i).find? p = none) (e : l[i]? = some d) : (p d = false -> (l.take (i + 1)).find? p = none) ∧ (p d = true -> l.find? p = some d) := by
 have h1 : l.take (i + 1) = l.take i ++ [d] := by rw [List.take_add_one,e];rfl
 constructor
 ·intro hp
  rw [h1,List.find?_append,h]
  simp [hp]
 ·intro hp
  obtain ⟨hlt,hd⟩ := List.getElem?_eq_some_iff.mp e
  have h2 : l = l.take i ++ d :: l.drop (i + 1) := by rw [← hd,← List.drop_eq_getElem_cons hlt,List.take_append_drop]
  rw [h2,List.find?_append,h]
  simp [hp]
theorem findSome_step {α β : Type} {l : List α} {p : α -> Option β} {i : Nat} {d : α} (h : (l.take i).findSome? p = none) (e : l[i]? = some d) : (p d = none -> (l.take (i + 1)).findSome? p = none) ∧ (∀ b,p d = some b -> l.findSome? p = some b) := by
 have h1 : l.take (i + 1) = l.take i ++ [d] := by rw [List.take_add_one,e];rfl
 constructor
 ·intro hp
  rw [h1,List.findSome?_append,h]
  simp [hp]
 ·intro b hp
  obtain ⟨hlt,hd⟩ := List.getElem?_eq_some_iff.mp e
  have h2 : l = l.take i ++ d :: l.drop (i + 1) := by rw [← hd,← List.drop_eq_getElem_cons hlt,List.take_append_drop]
  rw [h2,List.findSome?_append,h]
  simp [hp]
noncomputable def prt (ps : List (Str × Str)) (j : Nat) : Str × Str := ps[j]?.getD (ofString "",ofString "")
noncomputable def hitW (ps : List (Str × Str)) (ch : Str) (i : Nat) : Bool := ((prt ps i).1.length != 0) && (((Txt.item (prt ps i).1 0 == ch)) && true)
noncomputable def hitQ (ps : List (Str × Str)) (ch : Str) (i : Nat) : Bool := ((prt ps (i - 1)).2.length != 0) && ((Txt.item (prt ps (i - 1)).2 (-1) == ch) && true)
noncomputable def hitP (ps : List (Str × Str)) (ch : Str) (i : Nat) : Bool := (Txt.isspace ch && hitW ps ch i) || hitQ ps ch i
noncomputable def downs (n : Nat) : List Nat := (List.range (n - 1)).map fun j => n - 1 - j
noncomputable def findCut (ps : List (Str × Str)) (ch : Str) : Option Nat := (downs ps.length).find? (hitP ps ch)
noncomputable def signsS (x : Str) : List Str := x.cps.toList.map fun k => ⟨#[k]⟩
noncomputable def chooseCut (ps : List (Str × Str)) (liked : Str) : Option Nat := (signsS liked).findSome? (findCut ps)
theorem signs_eq (x : Str) : signs x = (signsS x).map .str := by simp [signs,signsS]
theorem downs_get {n j d : Nat} (h : (downs n)[j]? = some d) : j < n - 1 ∧ d = n - 1 - j := by
 unfold downs at h
 rw [List.getElem?_map] at h
 cases e : (List.range (n - 1))[j]? with
 | none => rw [e] at h;cases h
 | some a =>
  rw [e] at h
  obtain ⟨h1,h2⟩ := List.getElem?_eq_some_iff.mp e
  simp at h1 h2 h
  exact ⟨h1,by rw [h2];exact h.symm⟩
theorem downs_rangeL {n j : Nat} {d : D} (h : (rangeL ((n - 1 : Nat) : Int) (-1) (n - 1))[j]? = some d) : (downs n)[j]? = some (n - 1 - j) ∧ j < n - 1 ∧ d = .int ((n - 1 - j : Nat) : Int) := by
 obtain ⟨h1,h2⟩ := rangeL_get h
 refine ⟨?_,h1,?_⟩
 ·unfold downs
  rw [List.getElem?_map,List.getElem?_range h1];rfl
 ·rw [h2,Int.ofNat_sub (Nat.le_of_lt h1),Int.sub_eq_add_neg,Int.mul_neg,Int.mul_one]
theorem downs_len (n : Nat) : (downs n).length = n - 1 := by simp [downs]
theorem dn_lt {n k : Nat} (h : k < n - 1) : n - 1 - k < n := Nat.lt_of_le_of_lt (Nat.sub_le _ _) (Nat.sub_lt (Nat.lt_of_lt_of_le (Nat.zero_lt_of_lt h) (Nat.sub_le _ _)) Nat.one_pos)
theorem dn_dn {n i : Nat} (h : i < n) : n - 1 - (n - 1 - i) = i := Nat.sub_sub_self (Nat.le_sub_one_of_lt h)
theorem dn_rev {n k i : Nat} (hk : k < n - 1) (h : n - 1 - k < i) (h2 : i < n) : n - 1 - i < k := Nat.sub_lt_left_of_lt_add (Nat.le_sub_one_of_lt h2) ((Nat.sub_lt_iff_lt_add (Nat.le_of_lt hk)).mp h)
theorem cut_lt {ps : List (Str × Str)} {ch : Str} {i : Nat} (h : findCut ps ch = some i) : 0 < i ∧ i < ps.length := by
 have := List.mem_of_find?_eq_some h
 obtain ⟨j,hj⟩ := List.getElem?_of_mem this
 have := downs_get hj
 exact ⟨this.2 ▸ Nat.sub_pos_of_lt this.1,this.2 ▸ dn_lt this.1⟩
theorem choose_lt {ps : List (Str × Str)} {liked : Str} {i : Nat} (h : chooseCut ps liked = some i) : 0 < i ∧ i < ps.length := by
 obtain ⟨ch,_,h2⟩ := List.exists_of_findSome?_eq_some h
 exact cut_lt h2
theorem prt_get {ps : List (Str × Str)} {i : Nat} (h : i < ps.length) : (ps.map partD)[i]? = some (partD (prt ps i)) ∧ prt ps i ∈ ps := by
 unfold prt
 rw [List.getElem?_map,List.getElem?_eq_getElem h]
 exact ⟨rfl,List.getElem_mem h⟩
section
variable {w : World} {hb : Heap} {a : FA} {σ : FS} {A' : Around} {env : Env} {n : Nat} {ρ : List (Str × D)}
theorem je_part0 {p1 p2 p3 p4 p5 : Pos} {e : Expr} {i : Nat} (ok : (Cx.mk w hb (fW a) (fW a) A' env).Ok n) (hρ : ρ.lookup (ofString "self") = some (.val (.ref a.F))) (h : JE (Cx.mk w hb (fW a) (fW a) A' env) (fI a σ) ρ e (.int i)) (hi : i < σ.parts.length) (hz : σ.parts.length ≤ 900)
  (hs : ∀ o y,subscripted e false o y = operate [o,y] (getItem o y)) :
  JE (Cx.mk w hb (fW a) (fW a) A' env) (fI a σ) ρ (.Subscript (.Subscript (.Attribute (.Name (ofString "self") p1) (ofString "_current_line") p2) e p3) (.Constant (.int 0) 0 p4) p5) (.str (prt σ.parts i).1) :=
 JE.sub ok (JE.itemA (x := a.A) (dx := a.dA) ok (je_cur ok hρ) h fI_L (by omega) (prt_get hi).1 hs) JE.cint (SubR.tup (j := 0) rfl rfl (by decide) (by decide))
theorem je_part1 {p1 p2 p3 p4 p5 : Pos} {e : Expr} {i : Nat} (ok : (Cx.mk w hb (fW a) (fW a) A' env).Ok n) (hρ : ρ.lookup (ofString "self") = some (.val (.ref a.F))) (h : JE (Cx.mk w hb (fW a) (fW a) A' env) (fI a σ) ρ e (.int i)) (hi : i < σ.parts.length) (hz : σ.parts.length ≤ 900)
  (hs : ∀ o y,subscripted e false o y = operate [o,y] (getItem o y)) :
  JE (Cx.mk w hb (fW a) (fW a) A' env) (fI a σ) ρ (.Subscript (.Subscript (.Attribute (.Name (ofString "self") p1) (ofString "_current_line") p2) e p3) (.Constant (.int 1) 0 p4) p5) (.str (prt σ.parts i).2) :=
 JE.sub ok (JE.itemA (x := a.A) (dx := a.dA) ok (je_cur ok hρ) h fI_L (by omega) (prt_get hi).1 hs) JE.cint (SubR.tup (j := 1) rfl rfl (by decide) (by decide))
theorem jt_sign {I : Asr (fW a)} {p1 p2 p3 p4 p5 : Pos} {x : Str} {y ch : Str} {ke : Expr} {k : Int} (ok : (Cx.mk w hb (fW a) (fW a) A' env).Ok n) (hx : ρ.lookup x = some (.str y)) (hd : (x == ("__debug__" : Str)) = false) (hc : ρ.lookup (ofString "ch") = some (.str ch)) (hk : JE (Cx.mk w hb (fW a) (fW a) A' env) I ρ ke (.int k)) (hk1 : k = 0 ∨ k = -1) (hy : y.length ≤ 1000)
  (hs : ∀ p q,subscripted ke false p q = operate [p,q] (getItem p q)) :
  JT (Cx.mk w hb (fW a) (fW a) A' env) I ρ (.BoolOp .And [.Name x p1,.Compare (.Subscript (.Name x p2) ke p3) [.Eq] [.Name (ofString "ch") p4] p5] p5) ((y.length != 0) && ((Txt.item y k == ch) && true)) :=
 JT.and (JT.plain ok (JE.var ok hx hd) (TruR.str (by omega))) fun h => by
  have h0 : y.length ≠ 0 := by simpa using h
  exact JT.and (JT.cmp ok (JE.sub ok (JE.var ok hx hd) hk (SubR.str (by omega) (by omega) (by omega) hs)) (JE.var ok hc) BinR.seq (by with_unfolding_all rfl)) fun _ => JT.andnil
end
end
noncomputable def FS.taken (σ : FS) (i : Nat) : FS := { σ with parts := σ.parts.take i }
noncomputable def FS.cutAt (σ : FS) (i : Nat) : FS := { lines := σ.lines ++ [(σ.taken i).text],parts := σ.parts.drop i,init := 0 }
noncomputable def FS.chunk (maxlen : Int) (liked : Str) (σ : FS) (p : Str × Str) : FS :=
 if maxlen < (σ.push p).len then
  match chooseCut (σ.push p).parts liked with
  | some i => (σ.push p).cutAt i
  | none => if 0 < σ.init then σ.newl.push (if !(p.1.length != 0) then ofString " " else p.1,p.2) else σ.push p
 else σ.push p
theorem push_top {σ : FS} {p : Str × Str} : (σ.push p).top = p := by simp [FS.push,FS.top]
theorem push_pop {σ : FS} {p : Str × Str} : (σ.push p).pop = σ := by cases σ;simp [FS.push,FS.pop]
theorem push_fits {σ : FS} {p : Str × Str} (hf : σ.fits) (hz : σ.parts.length ≤ 800) (h1 : p.1.length ≤ 100) (h2 : p.2.length ≤ 100) : (σ.push p).fits := by
 obtain ⟨f1,f2,f3⟩ := hf
 refine ⟨by simp [FS.push];omega,fun q hq => ?_,f3⟩
 rcases List.mem_append.mp (show q ∈ σ.parts ++ [p] from hq) with z | z
 ·exact f2 q z
 ·rw [List.mem_singleton.mp z];exact ⟨h1,h2⟩
theorem taken_fits {σ : FS} {i : Nat} (hf : σ.fits) : (σ.taken i).fits := by
 obtain ⟨f1,f2,f3⟩ := hf
 exact ⟨by simp [FS.taken];omega,fun q hq => f2 q (List.take_subset _ _ hq),f3⟩
theorem sub1 {x : Str} {d : D} {ρ : List (Str × D)} (h : ρ.lookup x = some d) : Sub [(x,d)] ρ := Sub.cons h Sub.nil
set_option maxHeartbeats 4000000 in
theorem spec_chunk {w : World} {hb : Heap} {a : FA} {σ : FS} (g : Amb w hb (fW a) (fW a)) (ha : a.Ok) (hf : σ.fits) (hz : σ.lines.length ≤ 800) (hp : σ.parts.length ≤ 800) (x y : Str) (hx : x.length ≤ 100) (hy : y.length ≤ 100)
  (hl : a.liked.length ≤ 1000) (hnl : 0 < σ.init -> (σ.top.1 == ofString " " && σ.top.2 == ofString "") = false) :
  SpecX w hb (fW a) (fW a) 9 91 (fI a σ) [.val (.ref a.F),.str x,.str y] .non (fI a (σ.chunk a.maxlen a.liked (x,y))) := by
 revert w hb a σ x y;intros w hb a σ g ha hf hz hp x y hx hy hl hnl
 intros A s vs room hst hsz hW hI hR
 refine rels3 hR ?_;clear hR;intros v1 v2 v3;intro r1 r2 r3
 refine' spec_enterX (I := fI a σ) (ρ := [(ofString "string",.str y),(ofString "fws",.str x),(ofString "self",.val (.ref a.F))]) (binds := [(ofString "self",v1),(ofString "fws",v2),(ofString "string",v3)]) g room hst hsz hW hI ?ho ?hcd ?hbind ⟨rfl,r3,rfl,r2,rfl,r1,trivial⟩ ?hkind ?hnd ?h ?hco ?hgen ?hk
 case ho => k_is
 case hcd => k_is
 case hbind => rfl
 case hkind => rfl
 case hnd => decide
 case hco => rfl
 case hgen => rfl
 case hk => rfl
 intros A' env s0 L hE ok
 have hE' : (Cx.mk w hb (fW a) (fW a) A' env).env = _ := hE
 have g0 : Amb w hb (fW a) [] := ⟨g.g,g.wh,fun b q => nomatch q⟩
 have hf1 := push_fits (p := (x,y)) hf hp hx hy
 have hl1 := len_bound hf1
 have hpl : (σ.push (x,y)).parts.length ≤ 900 := hf1.1
 refine JS.xex (c := Cx.mk w hb (fW a) (fW a) A' env) (I := fI a σ) (I' := fI a (σ.push (x,y))) (XE.methL (x := a.A) (dx := a.dA) (C := 178) (m := 1) (ds := [.str x,.str y]) ok (by decide) (je_cur ok rfl) fI_acc rfl (OL178 _) (by k_is) (by k_is) (by k_is) (JEs.cons (JE.var ok rfl) (JEs.cons (JE.var ok rfl) JEs.nil rfl) rfl) (spec_push g ha x y (by omega))) ?_ ok
 refine JS.xif (I' := fI a (σ.push (x,y))) (q := decide (a.maxlen < (σ.push (x,y)).len)) (XT.cmp (a := .int (σ.push (x,y)).len) (b := .int a.maxlen) ok (XE.lenA (m := 3) ok (by decide) (JE.bltn ok (by k_is) boot_len (by decide) (kd hE' rfl)) (je_cur ok rfl) fI_acc (spec_len g ha hf1) hl1.1 (by omega)) (je_max ok rfl) BinR.gt (by with_unfolding_all rfl)) (fun q => ?yes) (fun q => ?no)
 case no =>
  have q' : ¬ a.maxlen < (σ.push (x,y)).len := by simpa using q
  have hc : σ.chunk a.maxlen a.liked (x,y) = σ.push (x,y) := by unfold FS.chunk;rw [if_neg q']
  rw [hc]
  exact JP.next (JP.nil fun s S => RQX.next S id)
 case yes =>
  have q' : a.maxlen < (σ.push (x,y)).len := by simpa using q
  refine JS.forrR (ds := signs a.liked) ok (JI.str ok (je_split ok rfl)) (fun j => ((signsS a.liked).take j).findSome? (findCut (σ.push (x,y)).parts) = none) rfl (fun _ => fI a (σ.push (x,y))) rfl (fun _ => [(ofString "self",.val (.ref a.F))]) (sub1 rfl)
   (fun s => ∃ i : Nat,chooseCut (σ.push (x,y)).parts a.liked = some i ∧ Sto (Cx.mk w hb (fW a) (fW a) A' env) (fI a (σ.push (x,y))) s0 [(ofString "i",.int i),(ofString "self",.val (.ref a.F))] s) ?turn ?els ?k
  case turn =>
   intros j d hd hR
   rw [signs_eq,List.getElem?_map] at hd
   obtain @⟨ch,hch,rfl⟩ := Option.map_eq_some_iff.mp hd
   refine ⟨[(ofString "ch",.str ch),(ofString "self",.val (.ref a.F))],JA.name ok (kl hE' rfl),fun s1 e1 => ?_⟩
   refine JS.forrR (ds := rangeL (((σ.push (x,y)).parts.length - 1 : Nat) : Int) (-1) ((σ.push (x,y)).parts.length - 1)) ok (JI.rangeDown ok (JE.bltn ok (by k_is) boot_range (by decide) (kd hE' rfl)) (JE.conv (JE.bin ok (JE.methL0 (x := a.A) (dx := a.dA) (C := 178) (m := 1) ok (by decide) (je_cur ok rfl) fI_acc rfl (OL178 _) (by k_is) (by k_is) (by k_is) (spec_partcount g0)) JE.cint BinR.sub) ?cv) JE.cint (JE.un ok JE.cint UnR.neg) (by omega))
    (fun k => ((downs (σ.push (x,y)).parts.length).take k).find? (hitP (σ.push (x,y)).parts ch) = none) rfl (fun _ => fI a (σ.push (x,y))) rfl (fun _ => [(ofString "ch",.str ch),(ofString "self",.val (.ref a.F))]) Sub.refl
    (fun s => ∃ i : Nat,findCut (σ.push (x,y)).parts ch = some i ∧ Sto (Cx.mk w hb (fW a) (fW a) A' env) (fI a (σ.push (x,y))) s1 [(ofString "i",.int i),(ofString "self",.val (.ref a.F))] s) ?turn2 ?els2 ?k2
   case cv =>
    have : 0 < (σ.push (x,y)).parts.length := by simp [FS.push]
    congr 1;omega
   case els2 =>
    intro hR2
    rw [rangeL_len,← downs_len,List.take_length] at hR2
    exact JS.cont fun s S => ⟨(findSome_step hR hch).1 hR2,S.weak (sub1 rfl)⟩
   case k2 => exact JS.brk fun s ⟨i,hi,S⟩ => ⟨i,(findSome_step hR hch).2 i hi,S.rebase' e1⟩
   case turn2 =>
    intros k d hd2 hR2
    obtain @⟨h1,h2,rfl⟩ := downs_rangeL hd2
    have hip := dn_lt h2
    have hi0 := Nat.sub_pos_of_lt h2
    have hln := fun j (h : j < (σ.push (x,y)).parts.length) => hf1.2.1 _ (prt_get h).2
    generalize hi : (σ.push (x,y)).parts.length - 1 - k = i at h1 hip hi0 ⊢
    refine ⟨[(ofString "i",.int i),(ofString "ch",.str ch),(ofString "self",.val (.ref a.F))],JA.name ok (kl hE' rfl),fun s2 e2 => ?_⟩
    refine JS.ifj (q := Txt.isspace ch) (JT.plain ok (JE.isspace (JE.var ok rfl)) TruR.bool) (fun s => Sto (Cx.mk w hb (fW a) (fW a) A' env) (fI a (σ.push (x,y))) s2 [(ofString "i",.int i),(ofString "ch",.str ch),(ofString "self",.val (.ref a.F))] s ∧ (Txt.isspace ch && hitW (σ.push (x,y)).parts ch i) = false) (fun hs => ?b1) (fun hs => JP.nil fun s S => ⟨S,by rw [hs];rfl⟩) ?b3
    case b1 =>
     refine JS.assign ok (je_part0 ok rfl (JE.var ok rfl) hip hpl (by intro _ _;with_unfolding_all rfl)) ?_ (kl hE' rfl)
     refine JS.iff (q := hitW (σ.push (x,y)).parts ch i) (jt_sign ok rfl (by decide) rfl JE.cint (.inl rfl) (by have := (hln _ hip).1;omega) (by intro _ _;with_unfolding_all rfl)) (fun hq => ?_) (fun hq => JP.next (JP.nil fun s S => ⟨S.weak (Sub.cons rfl (Sub.cons rfl (Sub.cons rfl Sub.nil))),by rw [hq];exact Bool.and_false _⟩))
     exact JS.brk fun s S => ⟨i,(find_step hR2 h1).2 (by unfold hitP;rw [hs,hq];rfl),(S.rebase' e2).weak (Sub.cons rfl (Sub.cons rfl Sub.nil))⟩
    case b3 =>
     intros s hsP
     obtain @⟨S,hw⟩ := hsP
     have hip' : i - 1 < (σ.push (x,y)).parts.length := by omega
     refine (show JP (Cx.mk w hb (fW a) (fW a) A' env) (Sto (Cx.mk w hb (fW a) (fW a) A' env) (fI a (σ.push (x,y))) s2 [(ofString "i",.int i),(ofString "ch",.str ch),(ofString "self",.val (.ref a.F))]) _ _ from ?_) s S
     refine JS.assign ok (je_part1 ok rfl (JE.conv (JE.bin ok (JE.var ok rfl) JE.cint BinR.sub) ?cv2) hip' hpl (by intro _ _;with_unfolding_all rfl)) ?_ (kl hE' rfl)
     case cv2 => congr 1;omega
     refine JS.iff (q := hitQ (σ.push (x,y)).parts ch i) (jt_sign ok rfl (by decide) rfl (JE.un ok JE.cint UnR.neg) (.inr rfl) (by have := (hln _ hip').2;omega) (by intro _ _;with_unfolding_all rfl)) (fun hq => ?_) (fun hq => JP.next (JP.nil fun s S => ⟨(find_step hR2 h1).1 (by unfold hitP;rw [hw,hq];rfl),S.weak (Sub.cons rfl (Sub.cons rfl Sub.nil))⟩))
     exact JS.brk fun s S => ⟨i,(find_step hR2 h1).2 (by unfold hitP;rw [hq];exact Bool.or_true _),(S.rebase' e2).weak (Sub.cons rfl (Sub.cons rfl Sub.nil))⟩
  case els =>
   intro hR
   have hlen : (signs a.liked).length = (signsS a.liked).length := by rw [signs_eq];simp
   rw [hlen,List.take_length] at hR
   have hch : chooseCut (σ.push (x,y)).parts a.liked = none := hR
   have sp := spec_pop (σ := σ.push (x,y)) g ha (by omega)
   rw [push_top,push_pop] at sp
   refine JS.xassignPair (I' := fI a σ) (d1 := .str x) (d2 := .str y) ok (XE.methL0 (x := a.A) (dx := a.dA) (C := 178) (m := 2) ok (by decide) (je_cur ok rfl) fI_acc rfl (OL178 _) (by k_is) (by k_is) (by k_is) sp) ?_ (kl hE' rfl) (kl hE' rfl)
   refine JS.iff (q := decide (0 < σ.init)) (JT.cmp ok (JE.attrL (x := a.A) (dx := a.dA) (C := 178) ok (je_cur ok rfl) fI_acc rfl (OL178 _) (attr := none) (by k_is) (by k_is)) JE.cint BinR.gt (by with_unfolding_all rfl)) (fun hi => ?i1) (fun hi => ?i2)
   case i1 =>
    have hi' : 0 < σ.init := by simpa using hi
    have hc : σ.chunk a.maxlen a.liked (x,y) = σ.newl.push (if !(x.length != 0) then ofString " " else x,y) := by unfold FS.chunk;rw [if_pos q',hch];simp only;rw [if_pos hi']
    have hfa := again_fits hf
    have hpos : 0 < σ.again.len := by
     have := parts_sum_le hfa.2.1
     show 0 < σ.init + _
     omega
    have hws : σ.again.onlyws = false := by
     have : (σ.again.init == 0) = false := by show (σ.init == 0) = false;simp;omega
     unfold FS.onlyws;rw [this];rfl
    refine JS.xex (I' := fI a σ.newl) (XE.meth0 (x := a.F) (dx := a.dF) (C := 94) (m := 7) ok (by decide) (JE.var ok rfl) fI_for rfl (by k_is) (by k_is) (by k_is) (by k_is) (spec_newline g ha hf (by omega) (by omega) (hnl hi') hpos hws)) ?_ ok
    refine JS.ifsetS (d0 := x) (d1 := ofString " ") ok (JT.not (JT.plain ok (JE.var ok rfl) (TruR.str (by omega)))) (fun _ => JE.cstr) rfl ?_ (kl hE' rfl)
    refine JP.next ?_
    have hx2 : (if !(x.length != 0) then ofString " " else x).length ≤ 100 := by split <;> first | exact hx | decide
    refine JS.xex (I' := fI a (σ.newl.push (if !(x.length != 0) then ofString " " else x,y))) (XE.methL (x := a.A) (dx := a.dA) (C := 178) (m := 1) (ds := [.str (if !(x.length != 0) then ofString " " else x),.str y]) ok (by decide) (je_cur ok rfl) fI_acc rfl (OL178 _) (by k_is) (by k_is) (by k_is) (JEs.cons (JE.var ok rfl) (JEs.cons (JE.var ok rfl) JEs.nil rfl) rfl) (spec_push g ha _ y (by simp [FS.newl]))) ?_ ok
    rw [hc]
    exact JS.ret0 fun s S => RQX.ret S mnon id
   case i2 =>
    have hi' : ¬ 0 < σ.init := by simpa using hi
    have hc : σ.chunk a.maxlen a.liked (x,y) = σ.push (x,y) := by unfold FS.chunk;rw [if_pos q',hch];simp only;rw [if_neg hi']
    refine JP.next ?_
    refine JS.xex (I' := fI a (σ.push (x,y))) (XE.methL (x := a.A) (dx := a.dA) (C := 178) (m := 1) (ds := [.str x,.str y]) ok (by decide) (je_cur ok rfl) fI_acc rfl (OL178 _) (by k_is) (by k_is) (by k_is) (JEs.cons (JE.var ok rfl) (JEs.cons (JE.var ok rfl) JEs.nil rfl) rfl) (spec_push g ha x y (by omega))) ?_ ok
    rw [hc]
    exact JS.ret0 fun s S => RQX.ret S mnon id
  case k =>
   intros s hs
   obtain @⟨i,hi,S⟩ := hs
   have hil := choose_lt hi
   have hc : σ.chunk a.maxlen a.liked (x,y) = (σ.push (x,y)).cutAt i := by unfold FS.chunk;rw [if_pos q',hi]
   rw [hc]
   refine (show JP (Cx.mk w hb (fW a) (fW a) A' env) (Sto (Cx.mk w hb (fW a) (fW a) A' env) (fI a (σ.push (x,y))) s0 [(ofString "i",.int i),(ofString "self",.val (.ref a.F))]) _ _ from ?_) s S
   refine JS.xassign (I' := fI a ((σ.push (x,y)).taken i)) (d := .lst (((σ.push (x,y)).parts.drop i).map partD)) ok (XE.methL (x := a.A) (dx := a.dA) (C := 178) (m := 1) (ds := [.int i]) ok (by decide) (je_cur ok rfl) fI_acc rfl (OL178 _) (by k_is) (by k_is) (by k_is) (JEs.cons (JE.var ok rfl) JEs.nil rfl) (spec_popfrom g ha i (by omega) hpl)) ?_ (kl hE' rfl)
   have hft := taken_fits (i := i) hf1
   refine JS.xex (I' := fI a { (σ.push (x,y)).taken i with lines := σ.lines ++ [((σ.push (x,y)).taken i).text] }) (xe_emit g ha hft (by show σ.lines.length ≤ 1000;omega) ok (by decide) rfl (kd hE' rfl)) ?_ ok
   refine JS.xex (I' := fI a ((σ.push (x,y)).cutAt i)) (XE.methL (x := a.A) (dx := a.dA) (C := 178) (m := 1) (ds := [.lst (((σ.push (x,y)).parts.drop i).map partD)]) ok (by decide) (je_cur ok rfl) fI_acc rfl (OL178 _) (by k_is) (by k_is) (by k_is) (JEs.cons (JE.var ok rfl) JEs.nil rfl) (spec_reset (σ := { (σ.push (x,y)).taken i with lines := σ.lines ++ [((σ.push (x,y)).taken i).text] }) g ha ((σ.push (x,y)).parts.drop i) _ (.inr rfl) hft.1 (by simp;omega))) ?_ ok
   exact JP.next (JP.nil fun s S => RQX.next S id)
section
section
variable {c : Cx} {I I' : Asr c.W} {ρ : List (Str × D)} {n : Nat}
theorem JE.joinL {o e : Expr} {apos pos : Pos} {x : Str} {ys : List Str} {L : Addr} (ok : c.Ok n) (h : JE c I ρ o (.str x)) (he : JE c I ρ e (.val (.ref L))) (hL : ∀ h,I.P h -> ∃ vs m,h.get? L = some { cls := .type "list",data := .seq (List.toArray vs) m } ∧ Rels c.W h (ys.map .str) vs)
  (hx : x.length ≤ 16) (hw : (ys.map (·.length)).sum + ys.length ≤ 1048576)
  (hm : ∃ pl,eval (.Call (.Attribute o (ofString "join") apos) [e] [] pos) c.env = (do
   let ov ← eval o c.env
   standAt apos.atName
   let (f,first) ← holding [ov] (getMethod ov (ofString "join") pl)
   callWith pos f first (backTo pos (starEach [e] c.env)) []) := by exact ⟨_,rfl⟩)
  (hst : starEach [e] c.env = (false,eval e c.env) :: starEach [] c.env := by rfl) :
  JE c I ρ (.Call (.Attribute o (ofString "join") apos) [e] [] pos) (.str (Txt.join x ys)) := fun s S => by
 obtain ⟨pl,hm⟩ := hm
 refine MethodCall_ (pl := pl) (fin (h s S) fun ov s1 q => ?_) hm
 obtain ⟨t,rfl⟩ := rstr q.2
 refine GM.join (callWith_method1 (fin (JEs.cons he JEs.nil hst pos s1 (S.ext q.1)) fun vs s2 q2 => ?_) hst)
 have r := q2.2
 refine rels1 r ?_;clear r;intro v r1
 rw [rval r1]
 obtain ⟨vs,m,e1,hR⟩ := hL _ ((S.ext q.1).ext q2.1).asr
 exact join_listW (items := List.toArray vs) ⟨_,e1,rfl,_,rfl⟩ (by simpa using hR.strs) hx hw fun t' k => ⟨(q.1.trans q2.1).trans (Ext.tok _ _ _),mstr⟩
end
set_option maxHeartbeats 2000000 in
theorem spec_strsep {w : World} {hb : Heap} {a : FA} {σ : FS} (g : Amb w hb (fW a) (fW a)) (ha : a.Ok) (hf : σ.fits) (hz : σ.lines.length ≤ 900) (hp : σ.parts.length ≤ 890) (x : Str) (hx : x.length ≤ 16)
  (hne : (σ.top.1 == ofString " " && σ.top.2 == ofString "") = false) (hpos : 0 < σ.again.len) (hws : σ.again.onlyws = false) (hw : (σ.newl.lines.map (·.length)).sum + σ.newl.lines.length ≤ 1048576) :
  SpecX w hb (fW a) (fW a) 9 42 (fI a σ) [.val (.ref a.F),.str x] (.str (Txt.join x σ.newl.lines)) (fI a σ.newl) := fun A s vs room hst hsz hW hI hR => by
 refine rels2 hR ?_;clear hR;intro v1 v2 r1 r2
 refine' spec_enterX (I := fI a σ) (ρ := [(ofString "linesep",.str x),(ofString "self",.val (.ref a.F))]) (binds := [(ofString "self",v1),(ofString "linesep",v2)]) g room hst hsz hW hI ?ho ?hcd ?hbind ⟨rfl,r2,rfl,r1,trivial⟩ ?hkind ?hnd ?h ?hco ?hgen ?hk
 case ho => k_is
 case hcd => k_is
 case hbind => rfl
 case hkind => rfl
 case hnd => decide
 case hco => rfl
 case hgen => rfl
 case hk => rfl
 intro A' env s0 L hE ok
 have hE' : (Cx.mk w hb (fW a) (fW a) A' env).env = _ := hE
 refine JS.xex (c := Cx.mk w hb (fW a) (fW a) A' env) (I := fI a σ) (I' := fI a σ.newl) (XE.meth0 (x := a.F) (dx := a.dF) (C := 94) (m := 7) ok (by decide) (JE.var ok rfl) fI_for rfl (by k_is) (by k_is) (by k_is) (by k_is) (spec_newline g ha hf (by omega) (by omega) hne hpos hws)) ?_ ok
 exact JS.ret (JE.joinL (L := a.L) ok (JE.var ok rfl) (je_lines ok rfl) (fun h hI => hI.2.2.1) hx hw) fun v s S r => RQX.ret S r id
end
section
open Builtin Builtin.ObjectAttr Builtin.Getset_descriptor
set_option maxHeartbeats 4000000
noncomputable abbrev instL (C dx : Addr) : Obj := { cls := .ref C,dict := some dx,data := .seq #[] }
noncomputable def makesL (K : Frag) (C : Addr) : Bool := match K.lookup C with
 | some ⟨_,_,.cls cd,sl⟩ => !cd.abstract && !cd.hasDel && (sl.toList[4]?).join == some (.builtin "list.__new__") && !cd.mro.isEmpty && cd.mro.contains (.ref C) && cd.mro.contains (.type "list") &&
   specialIn K (.ref C) "__call__" == some (some (.builtin "type.__call__")) && instIn K (.ref C) (.type "type") == some true
 | _ => false
structure MakesL (M : Model) (h : Heap) (C : Addr) : Prop where
 obj : ∃ oc od cd sl,h.get? C = some ⟨oc,od,.cls cd,sl⟩ ∧ cd.abstract = false ∧ cd.hasDel = false ∧ cd.mro.isEmpty = false
 made : Looks M h (Bind.madeBy (.ref C)) (some "list.__new__")
 base : Looks M h (Bind.staticBase (.ref C)) (.ref C)
 self : Looks M h (isSubtype (.ref C) (.ref C)) true
 lst : Looks M h (isSubtype (.ref C) (.type "list")) true
 call : Looks M h (specialOf (.ref C) "__call__") (some (.builtin "type.__call__"))
 typ : Looks M h (isInstance (.ref C) (.type "type")) true
 isT : Looks M h (isType (.ref C)) true
set_option tactic.hygienic true in
theorem makesL_of {K : Frag} {M : Model} {h : Heap} (X : K.In h) {C : Addr} (e : makesL K C = true) : MakesL M h C := by
 revert K M h C;intros K M h X C e
 unfold makesL at e
 split at e
 ·rename_i oc od cd sl ho
  simp only [Bool.and_eq_true,Bool.not_eq_true',beq_iff_eq] at e
  obtain @⟨⟨⟨⟨⟨⟨⟨e1,e2⟩,e3⟩,e4⟩,e5⟩,e6⟩,e7⟩,e8⟩ := e
  have hc : clsIn K C = some cd := by unfold clsIn;rw [ho]
  have hm : Looks M h (mroOf (.ref C)) cd.mro := (looks_clsIn X hc).andThen .now
  obtain @⟨c,l,hl⟩ : ∃ c l,cd.mro = c :: l := by cases q : cd.mro with | nil => rw [q] at e4;cases e4 | cons c l => exact ⟨c,l,rfl⟩
  have made : Looks M h (Bind.madeBy (.ref C)) (some "list.__new__") := by
   intros A Q E s k q
   unfold Bind.madeBy
   refine wpAny_bind (hm A _ E s k ?_)
   rw [hl,List.forIn_cons]
   refine wpAny_bind (wpAny_bind (wpAny_bind (wpAny_bind (wpAny_loadPart (k _ _ (X _ _ ho)) (wpAny_pure ?_)))))
   dsimp only
   rw [← Array.getElem?_toList,e3]
   exact wpAny_pure (wpAny_pure (wpAny_pure q))
  refine ⟨⟨oc,od,cd,sl,X _ _ ho,e1,e2,e4⟩,made,?_,looks_mroIn X ?_,looks_mroIn X ?_,looks_specialIn X e7,looks_instIn X e8,(Looks.ld (part := none) (X _ _ ho)).andThen .now⟩
  ·intros A Q E s k q
   unfold Bind.staticBase
   refine wpAny_bind (hm A _ E s k ?_)
   rw [hl,List.forIn_cons]
   exact wpAny_bind (wpAny_bind (wpAny_bind (made A _ E s k (wpAny_pure (wpAny_pure (wpAny_pure q))))))
  ·unfold mroIn;rw [hc,Option.bind_some,if_neg (by rw [e4];decide),e5]
  ·unfold mroIn;rw [hc,Option.bind_some,if_neg (by rw [e4];decide),e6]
 ·cases e
theorem kind_lnew : builtinKind "list.__new__" = some .builtinFn := by decide +kernel
theorem split_lnew : splitId "list.__new__" = some ("list","__new__") := by decide +kernel
theorem quiet_lnew (a : Args) : (Code.builtin "list.__new__" a).quiet = true := Code.quiet_builtin _ (by decide +kernel)
noncomputable def sigLnew : Manifest.Signature := ⟨.any,"list","list",.cls,[⟨"args",.varPos,false⟩,⟨"kwargs",.varKw,false⟩]⟩
theorem sig_lnew : Manifest.signature? "list.__new__" = some sigLnew := by kernel_rfl
theorem chk_lnew (C : Addr) (v : Value) : Bind.checkArgs "list.__new__" sigLnew ⟨[.ref C,v],[]⟩ = pure () := by kernel_rfl
section
variable {w : World} {A : Around} {C : Addr} {R : Result -> Shared -> Prop} {h : Heap} {g : Array GenState} {d : Drawn} {t : Nat} {os : OsState}
theorem new_L {v : Value} (Y : MakesL (model PR w) h C) (hq : R (.ok (.ret (.ref (h.objs.size + 1)))) ⟨(h.push emptyDict).push (instL C h.objs.size),g,d,t,os⟩) :
  codeAny (model PR w) A (.call (.builtin "list.__new__") ⟨[.ref C,v],[]⟩) R ⟨h,g,d,t,os⟩ := by
 revert w A C R h g d t os v;intros w A C R h g d t os v Y hq
 obtain @⟨⟨oc,od,cd,sl,hC,e1,e2,e4⟩,made,base,self,lst,call,typ,isT⟩ := Y
 refine codeAny_call_builtin_code (quiet_lnew _) ?_
 simp only [checkBuiltinCall,kind_lnew,split_lnew,sig_lnew]
 repeat (first | simp only [bne_self_eq_false,Bool.false_eq_true,if_false,chk_lnew] | lk)
 refine codeAny_builtin_stack PySem.F.entry_list_new rfl ?_
 intros p st
 rw [Around.under_plainId PySem.F.plain_list_new _]
 have hown := owner_list_new
 simp only [hown]
 have fin : ∀ A',wpAny (model PR w) A' (do
   let .ref d ← newDict | unsupported "internal:list.__new__"
   ret (← newObj (.ref C) (.seq #[]) (some d))) (fun fin s' => match fin with | .done f => R (.ok f) s' | .again c' => c'.quiet = true ∧ codeAny (model PR w) A c' R s') (fun e s' => R (.error e) s') ⟨h,g,d,t,os⟩ := by
  intros A'
  refine wpAny_bind (wpAny_newObj_type ?_)
  show wpAny _ _ (newObj (.ref C) (.seq #[]) (some h.objs.size) >>= fun v => ret v) _ _ _
  refine wpAny_bind ?_
  show wpAny _ _ (newObjAsIs _ _ _) _ _ _
  unfold newObjAsIs classHasDel
  refine wpAny_bind (wpAny_alloc (wpAny_bind (wpAny_bind (wpAny_load (Heap.get?_push_of_some _ (Heap.get?_push_of_some _ hC)) (wpAny_pure ?_)))))
  rw [e2]
  refine wpAny_pure (wpAny_pure ?_)
  show R _ _
  rw [Heap.size_push]
  exact hq
 repeat (first | simp only [Bool.not_true,Bool.false_eq_true,if_false] | exact fin _ | lk)
theorem makeL_core {v : Value} {init : Value} (Y : MakesL (model PR w) h C) (hi : Looks (model PR w) h (typeLookup (.ref C) "__init__") (some init))
  (hb : ∀ self,Looks (model PR w) h (bindSpecial init self) (init,[self]))
  (hq : codeAny (model PR w) (A.under (.builtin "type.__call__" ⟨[.ref C,v],[]⟩)) (.call init ⟨[.ref (h.objs.size + 1),v],[]⟩) (InitBack (h.objs.size + 1) R) ⟨(h.push emptyDict).push (instL C h.objs.size),g,d,t,os⟩) :
  codeAny (model PR w) A (.call (.ref C) ⟨[v],[]⟩) R ⟨h,g,d,t,os⟩ := by
 revert w A C R h g d t os v init;intros w A C R h g d t os v init Y hi hb hq
 have Y' := Y
 obtain @⟨⟨oc,od,cd,sl,hC,e1,e2,e4⟩,made,base,self,lst,call,typ,isT⟩ := Y
 refine codeAny_of_tree ?_
 show wpAny _ _ (callAny (.ref C) _) _ _ _
 refine nd_load hC ?_
 show wpAny _ _ (callAny.viaDunder (.ref C) _) _ _ _
 unfold callAny.viaDunder
 refine wpAny_bind (call.at ?_)
 dsimp only
 rw [tc_bind]
 refine wpAny_bind (wpAny_pure (wpAny_bind (wpAny_pure ?_)))
 refine wpAny_pure (a := Fin.again (.call (.builtin "type.__call__") ⟨.ref C :: [v],[]⟩)) (And.intro rfl ?_)
 refine codeAny_call_builtin_at (Code.quiet_builtin _ (by decide +kernel)) entry_typeCall (check_slot tc_kind tc_split typ (tc_args _ _ _) ?_)
 unfold Builtin.«type.__call__»
 have hm : Looks (model PR w) h (mroOf (.ref C)) cd.mro := ((Looks.ld (part := none) hC).andThen .now).andThen .now
 repeat (first | simp only [e4,Bool.false_eq_true,if_false] | with_reducible refine wpAny_call ?_ | lk)
 refine new_L Y' ?_
 have k : ∀ b o,h.get? b = some o -> ((h.push emptyDict).push (instL C h.objs.size)).get? b = some o := fun b o e => Heap.get?_push_of_some _ (Heap.get?_push_of_some _ e)
 have hx : ((h.push emptyDict).push (instL C h.objs.size)).get? (h.objs.size + 1) = some (instL C h.objs.size) := by heap_get
 have t1 : Looks (model PR w) ((h.push emptyDict).push (instL C h.objs.size)) (typeOf (.ref (h.objs.size + 1))) (.ref C) := (Looks.ld hx).andThen .now
 have s1 := self.keeps k
 have i1 := hi.keeps k
 have b1 := (hb (.ref (h.objs.size + 1))).keeps k
 unfold isInstance callSpecial? specialOf
 repeat (first | with_reducible refine wpAny_call ?_ | lk)
 refine codeAny_mono hq ?_
 intros r s' z
 rcases r with e | (v | _ | _ | _) <;> first | exact z | exact z.elim | skip
 obtain @⟨rfl,z⟩ := z
 exact wpAny_pure (wpAny_pure z)
end
end
section
set_option maxHeartbeats 1000000
theorem spec_enterFC {m : Nat} {f : Addr} {d : D} {ρ : List (Str × D)} {w : World} {hb : Heap} {W U : List Addr} {I I' : Asr W} {A : Around} {s : Shared} {vs : List Value} {binds : List (Str × Value)} {cl : List (Str × Addr)}
  {name qual : Str} {params : Arguments} {body : List Stmt} {scope : Scope} {dV kV doc pm cdv ct oc : Value} {an od : Option Addr} {osl : Array (Option Value)}
  (g : Amb w hb W U) (room : Room A (m + 1)) (hst : hb.StaysIn s.heap) (hsz : hb.objs.size ≤ s.heap.objs.size) (hW : WIn W s.heap) (hI : I.P s.heap)
  (ho : (hd.heap_1 w.params).lookup f = some ⟨oc,od,.func (fnX name qual params body scope cl dV kV doc pm an cdv ct),osl⟩) (hcd : codeIn (hd.heap_1 w.params) cdv qual = true)
  (hbind : BindsTo s (fnX name qual params body scope cl dV kV doc pm an cdv ct) ⟨vs,[]⟩ binds) (hρ : ∀ x d,ρ.lookup x = some d -> (∃ v,binds.reverse.lookup x = some v ∧ Rel W s.heap d v ∧ scope.names.lookup x = some .local) ∨
   (scope.names.lookup x = some .free ∧ (x == ("__classdict__" : Str)) = false ∧ ∃ a v,cl.lookup x = some a ∧ s.heap.IsCell a (some v) ∧ Rel W s.heap d v))
  (hloc : ∀ x ∈ binds,scope.names.lookup x.1 = some .local) (hcl : ClosOk (hd.heap_1 w.params) cl) (hap : cl.Pairwise fun x y => x.2 ≠ y.2) (hcell : ∀ x ∈ scope.names,x.2 ≠ .cell)
  (h : ∀ (A' : Around) (env : Env) (s0 : Shared) (L : Addr),env = envX qual scope L f cdv cl -> (Cx.mk w hb W U A' env).Ok m -> ∀ s,Sto (Cx.mk w hb W U A' env) I s0 ρ s ->
   _root_.PySem.wpAt (model PR w) A' (.func body env) (execs body env) (RQF (Cx.mk w hb W U A' env) s0 d I') NoE s)
  (hco : scope.isCoroutine = false) (hgen : scope.isGenerator = false) (hk : scope.kind = .function) :
  codeAny (model PR w) A (.call (.ref f) ⟨vs,[]⟩) (retOf fun v s' => Ext U s s' ∧ Rel W s'.heap d v ∧ WIn W s'.heap ∧ I'.P s'.heap) s := by
 obtain ⟨p,loose,mg,mb,T⟩ := g.g.T
 have X : (hd.heap_1 w.params).In s.heap := fun a o e => hst a o (g.g.X a o e)
 refine ks_codeAny_call_defAt (fd := fnX name qual params body scope cl dV kV doc pm an cdv ct) (body := body) (binds := binds) (by have := room.dp;simp only [recursionLimit];omega) (X _ _ ho) rfl (T.nolimit.keeps hst) (codeRec_of (K := hd.heap_1 w.params) X hcd) rfl hbind hcell hloc (fun h0 hns hkp => ?_) hco hgen hk
 have henv : callEnv (fnX name qual params body scope cl dV kV doc pm an cdv ct) s.heap.objs.size f = envX qual scope s.heap.objs.size f cdv cl := rfl
 rw [henv]
 have e0 : Ext [] s { s with heap := h0,toks := s.toks + binds.length } := ⟨fun b o _ => hkp b o,rfl,fun x => x⟩
 have hLn : s.heap.get? s.heap.objs.size = none := by
  cases q : s.heap.get? s.heap.objs.size with
  | none => rfl
  | some o => exact absurd (Heap.lt_size q) (Nat.lt_irrefl _)
 have hLW : s.heap.objs.size ∉ W := hW.fresh
 have cellAt : ∀ n a,(n,a) ∈ cl -> ∃ v,s.heap.IsCell a v := fun n a hm => by
  obtain ⟨c1,c2,v,c3,e⟩ := hcl n a hm
  exact ⟨v,_,X _ _ e,rfl⟩
 have cellW : ∀ n a,(n,a) ∈ cl -> a ∉ W := fun n a hm q => by
  obtain ⟨c1,c2,v,c3,e⟩ := hcl n a hm
  have := g.g.X _ _ e;rw [g.wh a q] at this;cases this
 have okc : Cx.Ok ⟨w,hb,W,U,A.deeper (envX qual scope s.heap.objs.size f cdv cl),envX qual scope s.heap.objs.size f cdv cl⟩ m := by
  refine ⟨g.g,⟨hk,hap,fun n a hm q => ?_,fun n a hm q => ?_,rfl,rfl⟩,⟨room.hh,?_,?_⟩,g.sub,g.wh⟩
  ·obtain ⟨v,o,eo,_⟩ := cellAt n a hm
   have q' : a = s.heap.objs.size := q
   rw [q',hLn] at eo;cases eo
  ·exact absurd rfl (hcell (n,.cell) (mem_of_lookup q))
  ·have := room.dp;simp only [Around.deeper];omega
  ·have := room.un;simp only [Around.deeper];omega
 have S0 : Sta ⟨w,hb,W,U,A.deeper (envX qual scope s.heap.objs.size f cdv cl),envX qual scope s.heap.objs.size f cdv cl⟩ I ρ { s with heap := h0,toks := s.toks + binds.length } := by
  refine ⟨⟨⟨_,⟨hns,fun b o e => hkp b o (hst b o e),hsz⟩,fun x d e => ?_⟩,fun n a hm => ⟨let ⟨v,y⟩ := cellAt n a hm;⟨v,isCell_move y (hkp a)⟩,cellW n a hm⟩,hLW⟩,hW.ext e0,I.st [] _ _ e0.keep (fun _ q => nomatch q) hI⟩
  rcases hρ x d e with ⟨v,h1,h2,h3⟩ | ⟨h1,h2,a,v,h3,h4,h5⟩
  ·exact .inl ⟨h3,v,h1,h2.ext e0⟩
  ·exact .inr ⟨.inr ⟨h1,h2⟩,a,v,h3,isCell_move h4 (hkp a),h5.ext e0⟩
 refine ks_wpAt_mono (h _ _ _ s.heap.objs.size rfl okc _ ⟨Ext.refl _ _,S0⟩) (fun fl s' r => ?_) fun _ _ z => z.elim
 obtain ⟨⟨v,hv,e,rr,hw,hi⟩,hs'⟩ := r
 have e2 : Ext U s s' := ⟨fun b o nb eb => ?_,e.os,e.gens⟩
 ·rcases hv with rfl | ⟨rfl,rfl⟩ <;> exact ⟨e2,rr,hw,hi⟩
 ·by_cases hb' : ∃ n,(n,b) ∈ cl
  ·obtain ⟨n,hm⟩ := hb'
   obtain ⟨c1,c2,v',c3,ek⟩ := hcl n b hm
   have h1 := X _ _ ek
   rw [eb] at h1;cases h1
   exact hs' _ _ (g.g.X _ _ ek)
  ·refine e.keep b o (fun q => ?_) (hkp b o eb)
   rcases List.mem_append.mp q with q | q
   ·exact nb q
   ·rcases List.mem_cons.mp q with q | q
    ·have q' : b = s.heap.objs.size := q
     rw [q',hLn] at eb;cases eb
    ·obtain ⟨⟨n,a⟩,hm,rfl⟩ := List.mem_map.mp q
     exact hb' ⟨n,hm⟩
noncomputable def accI0 {W : List Addr} (A dA : Addr) (hA : A ∈ W) (hdW : dA ∈ W) : Asr W where
 P := fun h => InstD W h A dA 178 (.seq #[] 0) [] 0
 st := fun V h h' k hV x => x.move (fun q => (hV A q).1 hA) (fun q => (hV dA q).1 hdW) (fun b q => .inr (hV b q).2) k
noncomputable def accI1 {W : List Addr} (A dA : Addr) (hA : A ∈ W) (hdW : dA ∈ W) (n : Int) : Asr W where
 P := AccP W A dA [] n
 st := fun V h h' k hV x => x.move k (fun b q => .inr (hV b q).2) (fun q => (hV A q).1 hA) (fun q => (hV dA q).1 hdW)
theorem spec_accinit {w : World} {hb : Heap} {W : List Addr} {A dA : Addr} (n : Int) (hA : A ∈ W) (hdW : dA ∈ W) (hne : A ≠ dA) (g : Amb w hb W [A,dA]) :
  SpecC w hb W [A,dA] 2 115 (accI0 A dA hA hdW) [.val (.ref A),.int n] .non (accI1 A dA hA hdW n) := fun A0 s vs room hst hsz hW hI hR => by
 refine rels2 hR ?_;clear hR;intro v1 v2 r1 r2
 have X : (hd.heap_1 w.params).In s.heap := fun b o e => hst b o (g.g.X b o e)
 refine' spec_enterFC (I := accI0 A dA hA hdW) (ρ := [(ofString "initial_size",.int n),(ofString "self",.val (.ref A))]) (binds := [(ofString "self",v1),(ofString "initial_size",v2)]) g room hst hsz hW hI ?ho ?hcd ?hbind ?hρ ?hloc ?hcl ?hap ?hcell ?h ?hco ?hgen ?hk
 case ho => k_is
 case hcd => kernel_rfl
 case hbind => exact binds_K X rfl (by k_is) rfl rfl rfl
 case hρ =>
  intro x d e
  rw [List.lookup_cons] at e
  split at e
  ·rename_i q
   cases e
   rw [beq_iff_eq.mp q]
   exact .inl ⟨v2,rfl,r2,rfl⟩
  ·rw [List.lookup_cons] at e
   split at e
   ·rename_i q
    cases e
    rw [beq_iff_eq.mp q]
    exact .inl ⟨v1,rfl,r1,rfl⟩
   ·cases e
 case hloc => intro x hx;simp only [List.mem_cons,List.not_mem_nil,or_false] at hx;rcases hx with rfl | rfl <;> rfl
 case hcl => intro n c hm;obtain ⟨rfl,rfl⟩ := Prod.mk.inj (List.mem_singleton.mp hm);obtain ⟨cl,cld,csl,e⟩ := cell102 w.params;exact ⟨_,_,_,_,e⟩
 case hap => exact List.pairwise_singleton _ _
 case hcell => decide
 case hco => rfl
 case hgen => rfl
 case hk => rfl
 intro A' env s0 L hE ok s S
 have hE' : (Cx.mk w hb W [A,dA] A' env).env = _ := hE
 have hI0 : ∀ h,(accI0 A dA hA hdW).P h -> ∃ dat,(∀ cd,dat ≠ .cls cd) ∧ InstD W h A dA 178 dat [] 0 := fun h x => ⟨_,(fun cd q => by cases q),x⟩
 have hI1 : ∀ h,(accI1 A dA hA hdW n).P h -> ∃ dat,(∀ cd,dat ≠ .cls cd) ∧ InstD W h A dA 178 dat [(ofString "_initial_size",.int n)] 1 := fun h ⟨vs,m,_,_,x⟩ => ⟨_,(fun cd q => by cases q),x⟩
 refine ks_wpAt_execs_cons (wpAt_of_wpAny (plainObj_wpAny_Assign_Attribute (fin (JE.var (c := Cx.mk w hb W [A,dA] A' env) (I := accI0 A dA hA hdW) (ρ := [(ofString "initial_size",.int n),(ofString "self",.val (.ref A))]) ok (d := .int n) rfl (by decide) s S.sta) fun v s1 q => ?_)))
 have S1 := S.ext0 q.1
 refine fin (JE.var (c := Cx.mk w hb W [A,dA] A' env) (I := accI0 A dA hA hdW) (ρ := [(ofString "initial_size",.int n),(ofString "self",.val (.ref A))]) ok (d := .val (.ref A)) rfl (by decide) s1 S1.sta) fun ov s2 q2 => ?_
 rw [rval q2.2]
 have S2 := S1.ext0 q2.1
 have hh : handedIn v = true := by obtain ⟨t,rfl⟩ := rint q.2;rfl
 refine fin (set_attr (I' := accI1 A dA hA hdW n) (x := A) (dx := dA) (C := 178) (k := 0) (at_ := []) ok S2.sta (q.2.ext q2.1) hh hI0 (by simp) hne (by decide) (by k_is) (.inr ⟨_,by k_is,rfl⟩) (by k_is) (by k_is) ?up) fun _ s3 z => ?_
 case up =>
  intro h h' hP sb live up
  have hx := up _ hP (fun cd q => by cases q)
  refine ⟨[],0,?_,by unfold List.map Rels;rfl,?_⟩
  ·obtain ⟨es,m,e1,_⟩ := hP
   exact sb.extBut _ _ hne e1
  ·exact hx
 have S3 : Sto (Cx.mk w hb W [A,dA] A' env) (accI1 A dA hA hdW n) s0 [(ofString "initial_size",.int n),(ofString "self",.val (.ref A))] s3 := ⟨S2.ext.trans (z.1.mono fun b q => u_sub b (by rw [List.mem_singleton.mp q];simp)),z.2⟩
 show _root_.PySem.wpAt _ _ _ _ _ _ _
 refine ks_wpAt_execs_cons (ks_wpAt_Expr_any ?_ (not_inter ok.env.kind))
 refine super_call (c := Cx.mk w hb W [A,dA] A' env) (I := accI1 A dA hA hdW n) (x := A) (dx := dA) (sn := ofString "self") ok ⟨hE,?o1,?o2,rfl,rfl,rfl,rfl⟩ (supInit w) S3.sta rfl hI1 fun s4 e4 => ⟨?o3,?o4⟩
 case o1 => exact ⟨_,_,_,_,_,by k_is,rfl,rfl⟩
 case o2 => exact file_of (by kernel_rfl)
 case o3 =>
  intro A Q E q
  exact wpAny_of_eq (show checkBoundCall "list.__init__" ⟨[.ref _],[]⟩ = pure () by kernel_rfl) q
 case o4 =>
  have S4 := S3.ext0 e4
  have hP := S4.sta.asr
  obtain ⟨vs,m,hA4,hvs,hi⟩ := id hP
  have hv0 : vs = [] := by unfold List.map Rels at hvs;exact hvs
  subst hv0
  obtain ⟨h4,g4,d4,t4,os4⟩ := s4
  refine codeAny_builtin PySem.F.entry_list_init ?_
  show wpAny _ _ (Builtin.List.listItems (.ref A) >>= _) _ _ _
  refine wpAny_bind (listItems_at hA4 rfl ?_)
  refine wpAny_bind (updSeqA hA4 (by simp) (by simp) fun h' m' sb e => ?_)
  refine wpAny_bind (wpAny_letGo ?_)
  refine wpAny_pure ?_
  have kp : ∀ b o,b ∉ [A] -> h4.get? b = some o -> h'.get? b = some o := fun b o nb eb => sb.extBut b o (fun q => nb (q ▸ List.mem_singleton.mpr rfl)) eb
  have e5 : Ext [A] (⟨h4,g4,d4,t4,os4⟩ : Shared) ⟨h',g4,d4,t4,os4⟩ := ⟨kp,rfl,fun z => z⟩
  have S5 := S4.sta.upd (I' := accI1 A dA hA hdW n) ok e5 (fun b q => by rw [List.mem_singleton.mp q];simp) (fun b q => by rw [List.mem_singleton.mp q];exact ⟨_,e⟩) (by
   obtain ⟨es,n',i1,i2,i3,i4⟩ := hi
   have hv : ∀ b ∈ [A],b ∈ W ∨ NoSeq h4 b := fun b q => .inl (by rw [List.mem_singleton.mp q];exact hA)
   exact ⟨[],m',e,by unfold List.map Rels;rfl,es,n',e,kp _ _ (by simpa using Ne.symm hne) i2,i3,fun y => ⟨(i4 y).1,fun d q => let ⟨u,a1,a2,a3⟩ := (i4 y).2 d q;⟨u,a1,a2.move kp hv,a3⟩⟩⟩)
  have S5' : Sto (Cx.mk w hb W [A,dA] A' env) (accI1 A dA hA hdW n) s0 [(ofString "initial_size",.int n),(ofString "self",.val (.ref A))] ⟨h',g4,d4,t4,os4⟩ := ⟨S4.ext.trans (e5.mono fun b q => u_sub b (by rw [List.mem_singleton.mp q];simp)),S5⟩
  show _root_.PySem.wpAt _ _ _ _ _ _ _
  exact wpAt_of_wpAny (wpAny_execs_nil ⟨RQX.next S5' id,S5'.sta.stays.1⟩)
end
section
set_option maxHeartbeats 1000000
theorem spec_enterG {m : Nat} {f : Addr} {R : Value -> Shared -> Prop} {ρ : List (Str × D)} {w : World} {hb : Heap} {W U : List Addr} {I : Asr W} {A : Around} {s : Shared} {vs : List Value} {binds : List (Str × Value)}
  {name qual : Str} {params : Arguments} {body : List Stmt} {scope : Scope} {dV kV doc pm cdv ct oc : Value} {an od : Option Addr} {osl : Array (Option Value)}
  (g : Amb w hb W U) (room : Room A (m + 1)) (hst : hb.StaysIn s.heap) (hsz : hb.objs.size ≤ s.heap.objs.size) (hW : WIn W s.heap) (hI : I.P s.heap)
  (ho : (hd.heap_1 w.params).lookup f = some ⟨oc,od,.func (fnOf name qual params body scope dV kV doc pm an cdv ct),osl⟩) (hcd : codeIn (hd.heap_1 w.params) cdv qual = true)
  (hbind : BindsTo s (fnOf name qual params body scope dV kV doc pm an cdv ct) ⟨vs,[]⟩ binds) (hρ : ∀ x d,ρ.lookup x = some d -> ∃ v,binds.reverse.lookup x = some v ∧ Rel W s.heap d v ∧ scope.names.lookup x = some .local)
  (hloc : ∀ x ∈ binds,scope.names.lookup x.1 = some .local) (hcell : ∀ x ∈ scope.names,x.2 ≠ .cell)
  (h : ∀ (A' : Around) (env : Env) (L : Addr),env = envX qual scope L f cdv [] -> (Cx.mk w hb W U A' env).Ok m -> s.heap.get? L = none -> ∀ s1,Ext [] s s1 -> Sto (Cx.mk w hb W U A' env) I s1 ρ s1 ->
   wpAny (model PR w) A' (execs body env) (fun fl s' => ∃ v,(fl = .ret v ∨ (fl = .next ∧ v = .none)) ∧ R v s') NoE s1)
  (hco : scope.isCoroutine = false) (hgen : scope.isGenerator = false) (hk : scope.kind = .function) :
  codeAny (model PR w) A (.call (.ref f) ⟨vs,[]⟩) (retOf R) s := by
 obtain ⟨p,loose,mg,mb,T⟩ := g.g.T
 have X : (hd.heap_1 w.params).In s.heap := fun a o e => hst a o (g.g.X a o e)
 refine codeAny_call_def (fd := fnOf name qual params body scope dV kV doc pm an cdv ct) (body := body) (binds := binds) (by have := room.dp;simp only [recursionLimit];omega) (X _ _ ho) rfl (T.nolimit.keeps hst) (codeRec_of (K := hd.heap_1 w.params) X hcd) rfl hbind hcell hloc (fun h0 hns hkp => ?_) hco hgen hk
 have henv : callEnv (fnOf name qual params body scope dV kV doc pm an cdv ct) s.heap.objs.size f = envX qual scope s.heap.objs.size f cdv [] := rfl
 rw [henv]
 have e0 : Ext [] s { s with heap := h0,toks := s.toks + binds.length } := ⟨fun b o _ => hkp b o,rfl,fun x => x⟩
 have hLn : s.heap.get? s.heap.objs.size = none := Heap.get?_none_of_le (Nat.le_refl _)
 have hLW : s.heap.objs.size ∉ W := hW.fresh
 have okc : Cx.Ok ⟨w,hb,W,U,A.deeper (envX qual scope s.heap.objs.size f cdv []),envX qual scope s.heap.objs.size f cdv []⟩ m := by
  refine ⟨g.g,⟨hk,.nil,fun n a hm => (nomatch hm),fun n a hm q => (nomatch hm),rfl,rfl⟩,⟨room.hh,?_,?_⟩,g.sub,g.wh⟩
  ·have := room.dp;simp only [Around.deeper];omega
  ·have := room.un;simp only [Around.deeper];omega
 have S0 : Sta ⟨w,hb,W,U,A.deeper (envX qual scope s.heap.objs.size f cdv []),envX qual scope s.heap.objs.size f cdv []⟩ I ρ { s with heap := h0,toks := s.toks + binds.length } := by
  refine ⟨⟨⟨_,⟨hns,fun b o e => hkp b o (hst b o e),hsz⟩,fun x d e => ?_⟩,fun n a hm => (nomatch hm),hLW⟩,hW.ext e0,I.st [] _ _ e0.keep (fun _ q => nomatch q) hI⟩
  obtain ⟨v,h1,h2,h3⟩ := hρ x d e
  exact .inl ⟨h3,v,h1,h2.ext e0⟩
 refine wpAny_mono (h _ _ s.heap.objs.size rfl okc hLn _ e0 ⟨Ext.refl _ _,S0⟩) (fun fl s' r => ?_) fun _ _ z => z.elim
 obtain ⟨v,hv,rr⟩ := r
 rcases hv with rfl | ⟨rfl,rfl⟩ <;> exact rr
theorem room_type {A : Around} {C : Addr} {vs : List Value} {m : Nat} (room : Room A (m + 1)) : Room (A.under (.builtin "type.__call__" ⟨.ref C :: vs,[]⟩)) m := by
 refine ⟨room.hh,?_,?_⟩
 ·have := room.dp
  show A.depth + Code.weight _ + m ≤ 600
  rw [show Code.weight (.builtin "type.__call__" ⟨.ref C :: vs,[]⟩) = 1 by kernel_rfl];omega
 ·have := room.un
  show A.units + Code.cUnits _ + 20 * m ≤ 6000
  rw [show Code.cUnits (.builtin "type.__call__" ⟨.ref C :: vs,[]⟩) = 1 by kernel_rfl];omega
theorem fresh_hb {hb : Heap} {s : Shared} (hst : hb.StaysIn s.heap) {b : Addr} (h : s.heap.get? b = none) : hb.get? b = none := by
 cases e : hb.get? b with
 | none => rfl
 | some o => rw [hst b o e] at h;cases h
theorem makesL178 (P : Params) : makesL (hd.heap_1 P) 178 = true := by kernel_rfl
theorem make_acc {w : World} {hb : Heap} {W : List Addr} {A0 : Around} {s : Shared} {n : Int} {t : Tok} (g : Gr w hb) (hwh : ∀ b ∈ W,hb.get? b = none) (room : Room A0 4) (hst : hb.StaysIn s.heap) (hsz : hb.objs.size ≤ s.heap.objs.size) (hW : WIn W s.heap) :
  wpAny (model PR w) A0 (call (.ref 178) [.int n t]) (fun r s' => ∃ A dA,r = .ref A ∧ s.heap.get? A = none ∧ s.heap.get? dA = none ∧ A ≠ dA ∧ Ext [] s s' ∧ AccP (A :: dA :: W) A dA [] n s'.heap) NoE s := by
 revert w hb W A0 s n t;intros w hb W A0;refine @sharedAll _ ?_;intros hh gg d tk os n t g hwh room hst hsz hW
 have X : (hd.heap_1 w.params).In hh := fun b o e => hst b o (g.X b o e)
 have hi : findIn (hd.heap_1 w.params) (.ref 178) "__init__" = some (some (.ref 115)) := by k_is
 have hf : typeIn (hd.heap_1 w.params) (.ref 115) = some (.type "function") := by k_is
 refine wpAny_call (makeL_core (makesL_of X (makesL178 _)) (looks_findIn X hi) (fun self => bind_fn X self hf) ?_)
 have kp : ∀ b o,hh.get? b = some o -> ((hh.push emptyDict).push (instL 178 hh.objs.size)).get? b = some o := fun b o e => Heap.get?_push_of_some _ (Heap.get?_push_of_some _ e)
 have hx : ((hh.push emptyDict).push (instL 178 hh.objs.size)).get? (hh.objs.size + 1) = some (instL 178 hh.objs.size) := by heap_get
 have hdd : ((hh.push emptyDict).push (instL 178 hh.objs.size)).get? hh.objs.size = some emptyDict := by heap_get
 have n1 : hh.get? (hh.objs.size + 1) = none := Heap.get?_none_of_le (Nat.le_succ _)
 have n2 : hh.get? hh.objs.size = none := Heap.get?_none_of_le (Nat.le_refl _)
 have e0 : Ext [] (⟨hh,gg,d,tk,os⟩ : Shared) ⟨(hh.push emptyDict).push (instL 178 hh.objs.size),gg,d,tk,os⟩ := ⟨fun b o _ e => kp b o e,rfl,fun z => z⟩
 have hne : hh.objs.size + 1 ≠ hh.objs.size := Nat.succ_ne_self _
 have gA : Amb w hb ((hh.objs.size + 1) :: hh.objs.size :: W) [hh.objs.size + 1,hh.objs.size] := by
  refine ⟨g,fun b q => ?_,fun b q => ?_⟩
  ·rcases List.mem_cons.mp q with rfl | q
   ·exact fresh_hb (s := ⟨hh,gg,d,tk,os⟩) hst n1
   ·rcases List.mem_cons.mp q with rfl | q
    ·exact fresh_hb (s := ⟨hh,gg,d,tk,os⟩) hst n2
    ·exact hwh b q
  ·rcases List.mem_cons.mp q with rfl | q
   ·exact List.mem_cons_self ..
   ·rw [List.mem_singleton.mp q];exact List.mem_cons_of_mem _ (List.mem_cons_self ..)
 have sp := spec_accinit (w := w) (hb := hb) (W := (hh.objs.size + 1) :: hh.objs.size :: W) (A := hh.objs.size + 1) (dA := hh.objs.size) n (List.mem_cons_self ..) (List.mem_cons_of_mem _ (List.mem_cons_self ..)) hne gA
 refine codeAny_mono (sp _ ⟨(hh.push emptyDict).push (instL 178 hh.objs.size),gg,d,tk,os⟩ [.ref (hh.objs.size + 1),.int n t] (room_type (m := 2) (room.le (by decide))) (fun b o e => kp b o (hst b o e)) (Nat.le_trans hsz (by simp only [Heap.size_push];omega)) ?hW ?hI (by unfold Rels;exact ⟨_,_,rfl,mval,by unfold Rels;exact ⟨_,_,rfl,mint,by unfold Rels;rfl⟩⟩)) fun r s' z => ?_
 case hW =>
  intros b q
  rcases List.mem_cons.mp q with rfl | q
  ·exact ⟨_,hx⟩
  ·rcases List.mem_cons.mp q with rfl | q
   ·exact ⟨_,hdd⟩
   ·obtain @⟨o,eo⟩ := hW b q
    exact ⟨o,kp b o eo⟩
 case hI => exact ⟨[],0,hx,hdd,Nat.zero_le _,fun y => ⟨fun _ => by simp [getL_eq],fun d e => by cases e⟩⟩
 rcases r with e | fl
 ·exact z.elim
 ·cases fl with
  | ret v =>
   obtain @⟨z1,z2,z3,z4⟩ := z
   refine ⟨rnon z2,hh.objs.size + 1,hh.objs.size,rfl,n1,n2,hne,⟨fun b o _ eb => z1.keep b o ?_ (kp b o eb),z1.os,z1.gens⟩,z4⟩
   intros q
   rcases List.mem_cons.mp q with rfl | q
   ·rw [n1] at eb;cases eb
   ·rw [List.mem_singleton.mp q,n2] at eb;cases eb
  | _ => exact z.elim
end
section
set_option maxHeartbeats 2000000
noncomputable def insA {W : List Addr} (F dF C : Addr) (hF : F ∈ W) (hdF : dF ∈ W) (at_ : List (Str × D)) (k : Nat) : Asr W where
 P := fun h => InstD W h F dF C .plain at_ k
 st := fun V h h' kp hV x => x.move (fun q => (hV F q).1 hF) (fun q => (hV dF q).1 hdF) (fun b q => .inr (hV b q).2) kp
section
variable {c : Cx} {I I' : Asr c.W} {ρ : List (Str × D)} {n : Nat}
theorem JE.lenS {f e : Expr} {pos : Pos} {x : Str} (ok : c.Ok n) (hf : JE c I ρ f (.val (.builtin "len"))) (h : JE c I ρ e (.str x)) (hl : x.length ≤ 100000)
  (he : starEach [e] c.env = (false,eval e c.env) :: starEach [] c.env := by rfl)
  (hq : eval (.Call f [e] [] pos) c.env = (do callWith pos (← eval f c.env) [] (backTo pos (starEach [e] c.env)) (backToKw pos (keywordEach [] c.env))) := by rfl) : JE c I ρ (.Call f [e] [] pos) (.int x.length) := fun s S => by
 refine Call_bltn ok hf (.inr ⟨_,rfl⟩) (JEs.cons h JEs.nil he) S (fun vs s1 e1 r => ?_) he (fun _ => rfl) hq
 refine rels1 r ?_;clear r;intro v r1
 obtain ⟨t,rfl⟩ := rstr r1
 exact PyProof.Rows.len_str (by omega) ⟨e1.trans (Ext.tok _ _ _),mint⟩
end
noncomputable abbrev at4 (liked : Str) (width : Int) : List (Str × D) := [(ofString "_splitchars",.str liked),(ofString "_continuation_ws_len",.int 1),(ofString "_continuation_ws",.str (ofString " ")),(ofString "_maxlen",.int width)]
noncomputable abbrev at6 (liked : Str) (width : Int) (L A : Addr) : List (Str × D) := (ofString "_current_line",.val (.ref A)) :: (ofString "_lines",.val (.ref L)) :: at4 liked width
noncomputable def ForMade (W : List Addr) (F dF : Addr) (head width : Int) (liked : Str) (s s' : Shared) : Prop :=
 ∃ L A dA,s.heap.get? L = none ∧ s.heap.get? A = none ∧ s.heap.get? dA = none ∧ L ≠ A ∧ L ≠ dA ∧ A ≠ dA ∧ Ext [F,dF] s s' ∧ s'.heap.get? L = some { cls := .type "list",data := .seq #[] } ∧ AccP (A :: dA :: W) A dA [] head s'.heap ∧ InstD W s'.heap F dF 94 .plain (at6 liked width L A) 6
theorem Sto.fresh {c : Cx} {I : Asr c.W} {ρ : List (Str × D)} {n : Nat} {s s1 s2 : Shared} (ok : c.Ok n) (e : Ext [] s s1) (S : Sto c I s1 ρ s2) {b : Addr} (h : s2.heap.get? b = none) : s.heap.get? b = none := by
 cases q : s.heap.get? b with
 | none => rfl
 | some o =>
  by_cases hv : b ∈ c.V
  ·obtain ⟨o',e'⟩ := V_live ok S.sta b hv
   rw [h] at e';cases e'
  ·rw [S.ext.keep b o hv (e.all b o q)] at h;cases h
theorem spec_forinit {w : World} {hb : Heap} {W : List Addr} {F dF : Addr} {A0 : Around} {s : Shared} (head width : Int) (liked : Str) (hF : F ∈ W) (hdF : dF ∈ W) (hne : F ≠ dF) (g : Amb w hb W [F,dF]) (room : Room A0 6) (hst : hb.StaysIn s.heap) (hsz : hb.objs.size ≤ s.heap.objs.size) (hW : WIn W s.heap)
  (hI : InstD W s.heap F dF 94 .plain [] 0) {t1 t2 t3 t4 : Tok} :
  codeAny (model PR w) A0 (.call (.ref 35) ⟨[.ref F,.int head t1,.int width t2,.str (ofString " ") t3,.str liked t4],[]⟩) (retOf fun v s' => v = .none ∧ ForMade W F dF head width liked s s') s := by
 have X : (hd.heap_1 w.params).In s.heap := fun b o e => hst b o (g.g.X b o e)
 refine' spec_enterG (m := 5) (I := insA F dF 94 hF hdF [] 0) (ρ := [(ofString "splitchars",.str liked),(ofString "continuation_ws",.str (ofString " ")),(ofString "maxlen",.int width),(ofString "headerlen",.int head),(ofString "self",.val (.ref F))])
  (binds := [(ofString "self",.ref F),(ofString "headerlen",.int head t1),(ofString "maxlen",.int width t2),(ofString "continuation_ws",.str (ofString " ") t3),(ofString "splitchars",.str liked t4)]) g room hst hsz hW hI ?ho ?hcd ?hbind ?hρ ?hloc ?hcell ?h ?hco ?hgen ?hk
 case ho => k_is
 case hcd => k_is
 case hbind => exact BindsTo.of_eq rfl
 case hρ =>
  intro x d e
  have key : ∀ (l : List (Str × D)) (b : List (Str × Value)),BRel W s.heap l b -> ∀ x d,l.lookup x = some d -> ∃ v,b.lookup x = some v ∧ Rel W s.heap d v := fun l b H x d e => H.look e
  obtain ⟨v,h1,h2⟩ := key [(ofString "splitchars",.str liked),(ofString "continuation_ws",.str (ofString " ")),(ofString "maxlen",.int width),(ofString "headerlen",.int head),(ofString "self",.val (.ref F))] [(ofString "splitchars",.str liked t4),(ofString "continuation_ws",.str (ofString " ") t3),(ofString "maxlen",.int width t2),(ofString "headerlen",.int head t1),(ofString "self",.ref F)] ⟨rfl,mstr,rfl,mstr,rfl,mint,rfl,mint,rfl,mval,trivial⟩ x d e
  refine ⟨v,h1,h2,?_⟩
  have := mem_of_lookup h1
  simp only [List.mem_cons,Prod.mk.injEq,List.not_mem_nil,or_false] at this
  rcases this with ⟨rfl,_⟩ | ⟨rfl,_⟩ | ⟨rfl,_⟩ | ⟨rfl,_⟩ | ⟨rfl,_⟩ <;> rfl
 case hloc => intro x hx;simp only [List.mem_cons,List.not_mem_nil,or_false] at hx;rcases hx with rfl | rfl | rfl | rfl | rfl <;> rfl
 case hcell => decide
 case hco => rfl
 case hgen => rfl
 case hk => rfl
 intro A' env L0 hE ok hL0 s1 e01 S1
 have hE' : (Cx.mk w hb W [F,dF] A' env).env = _ := hE
 have hII : ∀ at_ k h,(insA F dF 94 hF hdF at_ k).P h -> ∃ dat,(∀ cd,dat ≠ .cls cd) ∧ InstD W h F dF 94 dat at_ k := fun at_ k h x => ⟨_,(fun cd q => by cases q),x⟩
 refine (show JP (Cx.mk w hb W [F,dF] A' env) (Sto (Cx.mk w hb W [F,dF] A' env) (insA F dF 94 hF hdF [] 0) s1 _) _ _ from ?_) s1 S1
 refine JS.setattr (I' := insA F dF 94 hF hdF [(ofString "_maxlen",.int width)] 1) (x := F) (dx := dF) (C := 94) (k := 0) ok (JE.var ok (d := .int width) rfl) (fun _ q => by cases q) (JE.var ok rfl) (hII _ _) (by simp) hne (by decide) (by k_is) (.inl (by k_is)) (by k_is) (by k_is) (fun h h' hP sb live up => up .plain hP fun cd q => by cases q) ?_
 refine JS.setattr (I' := insA F dF 94 hF hdF [(ofString "_continuation_ws",.str (ofString " ")),(ofString "_maxlen",.int width)] 2) (x := F) (dx := dF) (C := 94) (k := 1) ok (JE.var ok (d := .str (ofString " ")) rfl) (fun _ q => by cases q) (JE.var ok rfl) (hII _ _) (by simp) hne (by decide) (by k_is) (.inl (by k_is)) (by k_is) (by k_is) (fun h h' hP sb live up => up .plain hP fun cd q => by cases q) ?_
 refine JS.setattr (I' := insA F dF 94 hF hdF [(ofString "_continuation_ws_len",.int 1),(ofString "_continuation_ws",.str (ofString " ")),(ofString "_maxlen",.int width)] 3) (x := F) (dx := dF) (C := 94) (k := 2) ok (JE.conv (JE.lenS ok (JE.bltn ok (by k_is) boot_len (by decide) (kdE hE' rfl)) (JE.var ok (d := .str (ofString " ")) rfl) (by decide)) rfl) (fun _ q => by cases q) (JE.var ok rfl) (hII _ _) (by simp) hne (by decide) (by k_is) (.inl (by k_is)) (by k_is) (by k_is) (fun h h' hP sb live up => up .plain hP fun cd q => by cases q) ?_
 refine JS.setattr (I' := insA F dF 94 hF hdF (at4 liked width) 4) (x := F) (dx := dF) (C := 94) (k := 3) ok (JE.var ok (d := .str liked) rfl) (fun _ q => by cases q) (JE.var ok rfl) (hII _ _) (by simp) hne (by decide) (by k_is) (.inl (by k_is)) (by k_is) (by k_is) (fun h h' hP sb live up => up .plain hP fun cd q => by cases q) ?_
 refine JP.step fun s2 S2 => ?_
 refine plainObj_wpAny_Assign_Attribute (List_ (spliced_none (wpAny_newList ?_ (by rw [sizeLine_eq];simp))))
 have e2 : Ext [] s2 { s2 with heap := s2.heap.push { cls := .type "list",data := .seq #[] } } := Ext.push
 have S3 := S2.ext0 e2
 refine fin (JE.var (c := Cx.mk w hb W [F,dF] A' env) (I := insA F dF 94 hF hdF (at4 liked width) 4) ok (d := .val (.ref F)) rfl (by decide) _ S3.sta) fun ov s4 q4 => ?_
 rw [rval q4.2]
 have S4 := S3.ext0 q4.1
 refine fin (set_attr (I' := insA F dF 94 hF hdF ((ofString "_lines",.val (.ref s2.heap.objs.size)) :: at4 liked width) 5) (x := F) (dx := dF) (C := 94) (k := 4) (d := .val (.ref s2.heap.objs.size)) ok S4.sta mval rfl (hII _ _) (by simp) hne (by decide) (by k_is) (.inl (by k_is)) (by k_is) (by k_is) (fun h h' hP sb live up => up .plain hP fun cd q => by cases q)) fun _ s5 z => ?_
 have S5 : Sto (Cx.mk w hb W [F,dF] A' env) (insA F dF 94 hF hdF ((ofString "_lines",.val (.ref s2.heap.objs.size)) :: at4 liked width) 5) s1 _ s5 := ⟨S4.ext.trans (z.1.mono fun b q => u_sub b (by rw [List.mem_singleton.mp q];simp)),z.2⟩
 have hL3 : s5.heap.get? s2.heap.objs.size = some { cls := .type "list",data := .seq #[] } := by
  have h0 : (s2.heap.push { cls := .type "list",data := .seq #[] }).get? s2.heap.objs.size = some { cls := .type "list",data := .seq #[] } := Heap.get?_push_size _ rfl
  refine z.1.keep _ _ (fun q => ?_) (q4.1.all _ _ h0)
  have q' := List.mem_singleton.mp q
  obtain ⟨o,eo⟩ := S2.sta.win dF hdF
  exact absurd (Heap.lt_size eo) (by rw [← q'];exact Nat.lt_irrefl _)
 have hLs : s.heap.get? s2.heap.objs.size = none := Sto.fresh ok e01 S2 (Heap.get?_none_of_le (Nat.le_refl _))
 generalize s2.heap.objs.size = L at hL3 hLs S5 ⊢
 refine (JP.step (P := fun s => s = s5) fun s6 hs6 => ?_) s5 rfl
 subst hs6
 refine plainObj_wpAny_Assign_Attribute (Call_ (fin (JE.glob (c := Cx.mk w hb W [F,dF] A' env) (I := insA F dF 94 hF hdF ((ofString "_lines",.val (.ref L)) :: at4 liked width) 5) (v := .ref 178) ok (by k_is) (kdE hE' rfl) (by decide) _ S5.sta) fun cv s7 q7 => ?_))
 rw [rval q7.2]
 have S7 := S5.ext0 q7.1
 refine callWith_K (K := hd.heap_1 w.params) (h₀ := hb) g.g.X (by k_is) (fin (JEs.cons (JE.var (c := Cx.mk w hb W [F,dF] A' env) (I := insA F dF 94 hF hdF ((ofString "_lines",.val (.ref L)) :: at4 liked width) 5) ok (d := .int head) rfl (by decide)) JEs.nil rfl _ s7 S7.sta) fun vs s8 q8 => ⟨(S7.ext0 q8.1).sta.kin ok,?_⟩)
 have S8 := S7.ext0 q8.1
 have r8 := q8.2
 refine rels1 r8 ?_;clear r8;intro hv r8
 obtain ⟨th,rfl⟩ := rint r8
 refine fin (make_acc (n := head) (t := th) g.g g.wh (ok.room.le (by decide)) S8.sta.stays.1 S8.sta.stays.2 S8.sta.win) fun r s9 q9 => ?_
 obtain ⟨A,dA,rfl,hA,hdA,hne2,e9,acc⟩ := q9
 have S9 := S8.ext0 e9
 refine fin (JE.var (c := Cx.mk w hb W [F,dF] A' env) (I := insA F dF 94 hF hdF ((ofString "_lines",.val (.ref L)) :: at4 liked width) 5) ok (d := .val (.ref F)) rfl (by decide) _ S9.sta) fun ov s10 q10 => ?_
 rw [rval q10.2]
 have S10 := S9.ext0 q10.1
 refine fin (set_attr (I' := insA F dF 94 hF hdF (at6 liked width L A) 6) (x := F) (dx := dF) (C := 94) (k := 5) (d := .val (.ref A)) ok S10.sta mval rfl (hII _ _) (by simp) hne (by decide) (by k_is) (.inl (by k_is)) (by k_is) (by k_is) (fun h h' hP sb live up => up .plain hP fun cd q => by cases q)) fun _ s11 z2 => ?_
 have S11 : Sto (Cx.mk w hb W [F,dF] A' env) (insA F dF 94 hF hdF (at6 liked width L A) 6) s1 _ s11 := ⟨S10.ext.trans (z2.1.mono fun b q => u_sub b (by rw [List.mem_singleton.mp q];simp)),z2.2⟩
 have hL8 : s8.heap.get? L = some { cls := .type "list",data := .seq #[] } := q8.1.all _ _ (q7.1.all _ _ hL3)
 obtain ⟨odF,edF⟩ := S8.sta.win dF hdF
 have n1 : L ≠ A := fun q => by rw [q,hA] at hL8;cases hL8
 have n2 : L ≠ dA := fun q => by rw [q,hdA] at hL8;cases hL8
 have nA : A ∉ [dF] := fun q => by rw [← List.mem_singleton.mp q,hA] at edF;cases edF
 have nd : dA ∉ [dF] := fun q => by rw [← List.mem_singleton.mp q,hdA] at edF;cases edF
 have nL : L ∉ [dF] := fun q => by
  have q' := List.mem_singleton.mp q
  obtain ⟨o,eo⟩ := hW dF hdF
  rw [← q',hLs] at eo;cases eo
 refine wpAny_execs_nil ⟨.none,.inr ⟨rfl,rfl⟩,rfl,L,A,dA,hLs,Sto.fresh ok e01 S8 hA,Sto.fresh ok e01 S8 hdA,n1,n2,hne2,?_,z2.1.keep _ _ nL (q10.1.all _ _ (e9.all _ _ hL8)),?_,S11.sta.asr⟩
 ·refine ⟨fun b o nb eb => S11.ext.keep b o (fun q => ?_) (e01.all b o eb),S11.ext.os.trans e01.os,fun x => S11.ext.gens (e01.gens x)⟩
  rcases List.mem_append.mp q with q | q
  ·exact nb q
  ·have hl : env.locals = L0 := by rw [hE]
   have hc : env.cells = [] := by rw [hE]
   have q2 : b = L0 := by
    have : b ∈ env.locals :: env.cells.map (·.2) := q
    rw [hl,hc] at this
    exact List.mem_singleton.mp this
   rw [q2,hL0] at eb;cases eb
 ·exact (acc.move (V := []) (fun b o _ eb => q10.1.all b o eb) (fun b q => nomatch q) (by simp) (by simp)).move z2.1.keep (fun b q => .inl (by rw [List.mem_singleton.mp q];exact List.mem_cons_of_mem _ (List.mem_cons_of_mem _ hdF))) nA nd
end
section
set_option maxHeartbeats 2000000
noncomputable def D.flat : D -> Bool
 | .tup _ => false
 | .lst _ => false
 | _ => true
theorem Rel.flat {W W' : List Addr} {h h' : Heap} : ∀ {d : D} {v : Value},d.flat = true -> Rel W h d v -> Rel W' h' d v
 | .int _,_,_,x => x
 | .str _,_,_,x => x
 | .bool _,_,_,x => x
 | .non,_,_,x => x
 | .val _,_,_,x => x
 | .tup _,_,q,_ => by cases q
 | .lst _,_,q,_ => by cases q
theorem InstD.flat {W W' : List Addr} {h : Heap} {x dx C : Addr} {dat : Data} {at_ : List (Str × D)} {k : Nat} (I : InstD W h x dx C dat at_ k) (hf : ∀ p ∈ at_,p.2.flat = true) : InstD W' h x dx C dat at_ k := by
 obtain ⟨es,n,h1,h2,h3,h4⟩ := I
 exact ⟨es,n,h1,h2,h3,fun y => ⟨(h4 y).1,fun d e => let ⟨v,a,b,c⟩ := (h4 y).2 d e;⟨v,a,b.flat (hf _ (mem_of_lookup e)),c⟩⟩⟩
theorem makes94 (P : Params) : makesIn (hd.heap_1 P) 94 = true := by k_is
theorem make_for {w : World} {hb : Heap} {A0 : Around} {s : Shared} {head width : Int} {liked : Str} {t1 t2 t3 t4 : Tok} (g : Gr w hb) (room : Room A0 8) (hst : hb.StaysIn s.heap) (hsz : hb.objs.size ≤ s.heap.objs.size) (hT : TabP s.heap 140 ∧ TabP s.heap 147) :
  wpAny (model PR w) A0 (call (.ref 94) [.int head t1,.int width t2,.str (ofString " ") t3,.str liked t4]) (fun r s' => ∃ a : FA,r = .ref a.F ∧ a.Ok ∧ a.maxlen = width ∧ a.liked = liked ∧ (∀ b ∈ [a.F,a.dF,a.L,a.A,a.dA],s.heap.get? b = none) ∧ Ext [] s s' ∧ fP a ⟨[],[],head⟩ s'.heap) NoE s := by
 revert w hb A0 s head width liked t1 t2 t3 t4;intros w hb A0;refine @sharedAll _ ?_;intros hh gg d tk os head width liked t1 t2 t3 t4 g room hst hsz hT
 have X : (hd.heap_1 w.params).In hh := fun b o e => hst b o (g.X b o e)
 have hi : findIn (hd.heap_1 w.params) (.ref 94) "__init__" = some (some (.ref 35)) := by k_is
 have hf : typeIn (hd.heap_1 w.params) (.ref 35) = some (.type "function") := by k_is
 refine wpAny_call (make_core (makes_of X (makes94 _)) (looks_findIn X hi) (fun self => bind_fn X self hf) (.inl rfl) ?_)
 have kp : ∀ b o,hh.get? b = some o -> ((hh.push emptyDict).push (instObj 94 hh.objs.size)).get? b = some o := fun b o e => Heap.get?_push_of_some _ (Heap.get?_push_of_some _ e)
 have hx : ((hh.push emptyDict).push (instObj 94 hh.objs.size)).get? (hh.objs.size + 1) = some (instObj 94 hh.objs.size) := by heap_get
 have hdd : ((hh.push emptyDict).push (instObj 94 hh.objs.size)).get? hh.objs.size = some emptyDict := by heap_get
 have n1 : hh.get? (hh.objs.size + 1) = none := Heap.get?_none_of_le (Nat.le_succ _)
 have n2 : hh.get? hh.objs.size = none := Heap.get?_none_of_le (Nat.le_refl _)
 have e0 : Ext [] (⟨hh,gg,d,tk,os⟩ : Shared) ⟨(hh.push emptyDict).push (instObj 94 hh.objs.size),gg,d,tk,os⟩ := ⟨fun b o _ e => kp b o e,rfl,fun z => z⟩
 have hne : hh.objs.size + 1 ≠ hh.objs.size := Nat.succ_ne_self _
 have gA : Amb w hb [hh.objs.size + 1,hh.objs.size] [hh.objs.size + 1,hh.objs.size] := by
  refine ⟨g,fun b q => ?_,fun b q => q⟩
  rcases List.mem_cons.mp q with rfl | q
  ·exact fresh_hb (s := ⟨hh,gg,d,tk,os⟩) hst n1
  ·rw [List.mem_singleton.mp q];exact fresh_hb (s := ⟨hh,gg,d,tk,os⟩) hst n2
 have sp := spec_forinit (w := w) (hb := hb) (W := [hh.objs.size + 1,hh.objs.size]) (F := hh.objs.size + 1) (dF := hh.objs.size) (A0 := A0.under (.builtin "type.__call__" ⟨.ref 94 :: [.int head t1,.int width t2,.str (ofString " ") t3,.str liked t4],[]⟩)) (s := ⟨(hh.push emptyDict).push (instObj 94 hh.objs.size),gg,d,tk,os⟩) head width liked (List.mem_cons_self ..) (List.mem_cons_of_mem _ (List.mem_cons_self ..)) hne gA (room_type (room.le (by decide))) (fun b o e => kp b o (hst b o e)) (Nat.le_trans hsz (by simp only [Heap.size_push];omega)) ?hW ⟨[],0,hx,hdd,Nat.zero_le _,fun y => ⟨fun _ => by simp [getL_eq],fun d e => by cases e⟩⟩ (t1 := t1) (t2 := t2) (t3 := t3) (t4 := t4)
 case hW =>
  intros b q
  rcases List.mem_cons.mp q with rfl | q
  ·exact ⟨_,hx⟩
  ·rw [List.mem_singleton.mp q];exact ⟨_,hdd⟩
 refine codeAny_mono sp ?_
 intros r s' z
 rcases r with e | fl
 ·exact z.elim
 ·cases fl with
  | ret v =>
   obtain @⟨rfl,L,A,dA,hL,hA,hdA,m1,m2,m3,ee,lL,acc,ins⟩ := z
   have low : ∀ {b},((hh.push emptyDict).push (instObj 94 hh.objs.size)).get? b = none -> hh.get? b = none := fun {b} q => by
    cases q2 : hh.get? b with
    | none => rfl
    | some o => rw [kp b o q2] at q;cases q
   have ex : Ext [] (⟨hh,gg,d,tk,os⟩ : Shared) s' := ⟨fun b o _ eb => ee.keep b o (fun q => by
    rcases List.mem_cons.mp q with rfl | q
    ·rw [n1] at eb;cases eb
    ·rw [List.mem_singleton.mp q,n2] at eb;cases eb) (kp b o eb),ee.os,ee.gens⟩
   obtain @⟨⟨ps1,p1,p1'⟩,⟨ps2,p2,p2'⟩⟩ := hT
   have ne140 : ∀ {b},hh.get? b = none -> b ≠ 140 := fun {b} q q2 => by rw [q2,p1] at q;cases q
   have ne147 : ∀ {b},hh.get? b = none -> b ≠ 147 := fun {b} q q2 => by rw [q2,p2] at q;cases q
   have nx : ∀ {b},((hh.push emptyDict).push (instObj 94 hh.objs.size)).get? b = none -> hh.objs.size + 1 ≠ b ∧ hh.objs.size ≠ b := fun {b} q => ⟨fun q2 => (by rw [← q2,hx] at q;cases q),fun q2 => (by rw [← q2,hdd] at q;cases q)⟩
   refine ⟨rfl,⟨hh.objs.size + 1,hh.objs.size,L,A,dA,width,liked⟩,rfl,⟨?_⟩,rfl,rfl,?_,ex,?_,?_,?_,⟨ps1,ex.all _ _ p1,p1'⟩,⟨ps2,ex.all _ _ p2,p2'⟩⟩
   ·show [hh.objs.size + 1,hh.objs.size,L,A,dA,140,147].Nodup
    simp only [List.nodup_cons,List.mem_cons,not_or,List.not_mem_nil,not_false_eq_true,and_true,List.nodup_nil]
    exact ⟨⟨hne,(nx hL).1,(nx hA).1,(nx hdA).1,ne140 n1,ne147 n1⟩,⟨(nx hL).2,(nx hA).2,(nx hdA).2,ne140 n2,ne147 n2⟩,⟨m1,m2,ne140 (low hL),ne147 (low hL)⟩,⟨m3,ne140 (low hA),ne147 (low hA)⟩,⟨ne140 (low hdA),ne147 (low hdA)⟩,by decide⟩
   ·intros b q
    simp only [List.mem_cons,List.not_mem_nil,or_false] at q
    rcases q with rfl | rfl | rfl | rfl | rfl
    ·exact n1
    ·exact n2
    ·exact low hL
    ·exact low hA
    ·exact low hdA
   ·obtain @⟨vs,m,a1,a2,a3⟩ := acc
    unfold List.map Rels at a2
    subst a2
    exact ⟨[],m,a1,by unfold List.map Rels;rfl,a3.flat (by simp [D.flat])⟩
   ·exact ins.flat (by simp [D.flat])
   ·exact ⟨[],0,lL,by unfold List.map Rels;rfl⟩
  | _ => exact z.elim
end
theorem QN.nil {c : Cx} {Q : Flow -> Shared -> Prop} {s : Shared} (h : Q .next s) : QN c [] Q .next s := wpAny_execs_nil h
noncomputable def fmHit (bits : Int) (i : Nat) (p : Int × Str) : Bool := if (i : Int) == 0 then Builtin.bitAnd bits 61440 == p.1 else Builtin.bitAnd bits p.1 == p.1
noncomputable def fmPick (bits : Int) (i : Nat) (t : List (Int × Str)) : Str := match t.find? (fmHit bits i) with
 | some p => p.2
 | none => if (i : Int) == 0 then ofString "?" else ofString "-"
noncomputable def fmOut (bits : Int) (i : Nat) : List Str := (fmTables.zipIdx.take i).map fun p => fmPick bits p.2 p.1
noncomputable def fmText (bits : Int) : Str := Txt.join (ofString "") (fmOut bits 10)
theorem fmOut_succ {bits : Int} {i : Nat} {t : List (Int × Str)} (h : fmTables[i]? = some t) : fmOut bits (i + 1) = fmOut bits i ++ [fmPick bits i t] := by
 unfold fmOut
 rw [List.take_add_one,List.getElem?_zipIdx,h]
 simp
theorem fmPick_hit {bits : Int} {i j : Nat} {t : List (Int × Str)} {p : Int × Str} (R : ∀ p ∈ t.take j,fmHit bits i p = false) (hp : t[j]? = some p) (h : fmHit bits i p = true) : fmPick bits i t = p.2 := by
 have : t.find? (fmHit bits i) = some p := by
  obtain ⟨hj,e⟩ := List.getElem?_eq_some_iff.mp hp
  rw [List.find?_eq_some_iff_getElem]
  refine ⟨h,j,hj,e,fun k hk => ?_⟩
  have := R t[k] (List.mem_take_iff_getElem.mpr ⟨k,by omega,rfl⟩)
  simp [this]
 unfold fmPick
 rw [this]
theorem fmPick_none {bits : Int} {i : Nat} {t : List (Int × Str)} (R : ∀ p ∈ t.take t.length,fmHit bits i p = false) : fmPick bits i t = if (i : Int) == 0 then ofString "?" else ofString "-" := by
 have : t.find? (fmHit bits i) = none := by
  rw [List.find?_eq_none]
  intro p hp
  rw [R p (by rwa [List.take_length])]
  simp
 unfold fmPick
 rw [this]
theorem take_succ_all {α : Type} {t : List α} {j : Nat} {p : α} {f : α -> Bool} (R : ∀ p ∈ t.take j,f p = false) (hp : t[j]? = some p) (h : f p = false) : ∀ p ∈ t.take (j + 1),f p = false := by
 intro q hq
 rw [List.take_add_one,hp] at hq
 rcases List.mem_append.mp hq with z | z
 ·exact R q z
 ·simp at z;rw [z];exact h
noncomputable def fmL (bits : Int) (i : Nat) : List D := (fmOut bits i).map .str
theorem fmL_succ {bits : Int} {i : Nat} {t : List (Int × Str)} {x : Str} (h : fmTables[i]? = some t) (e : fmPick bits i t = x) : fmL bits i ++ [.str x] = fmL bits (i + 1) := by
 unfold fmL;rw [fmOut_succ h,e];simp
theorem fmL_len (bits : Int) (i : Nat) : (fmL bits i).length ≤ 100000 := by
 have : (fmL bits i).length ≤ 10 := by
  unfold fmL fmOut
  simp only [List.length_map,List.length_take,List.length_zipIdx]
  exact Nat.le_trans (Nat.min_le_right ..) (by decide)
 omega
set_option maxHeartbeats 2000000 in
theorem spec_filemode (bits : Int) (hw : ((fmOut bits 10).map (·.length)).sum + (fmOut bits 10).length ≤ 1048576) : Spec 2 252 [.int bits] (.str (fmText bits)) := by
 revert bits;intros bits hw
 intros w hb W A s vs g room hst hsz hW hR
 refine rels1 hR ?_;clear hR;intro v1 r1
 refine' spec_enter (ρ := [(ofString "mode",.int bits)]) (binds := [(ofString "mode",v1)]) g room hst hsz hW ?ho ?hcd ?hbind ⟨rfl,r1,trivial⟩ ?hkind ?hnd ?h ?hco ?hgen ?hk
 case ho => k_is
 case hcd => k_is
 case hbind => rfl
 case hkind => rfl
 case hnd => decide
 case hco => rfl
 case hgen => rfl
 case hk => rfl
 intros c s0 L hE hU ok
 refine' JS.newlist ok ?k ?hk
 case hk => exact kl hE rfl
 case k =>
 intros a s1 hn hW x hbn
 have ok' := ok.own hbn
 have hE' : (c.own a).env = envOfC _ _ _ _ _ := hE
 refine' JS.forr ok' (ds := enumL (fmTables.map fun t => .tup (fmRow t))) ?it (fun i => Asr.list a (List.mem_cons_self ..) (fmL bits i)) rfl (fun i => [(ofString "perm",.val (.ref a)),(ofString "mode",.int bits)])
  ?h0 (Sto (c.own a) (Asr.list a (List.mem_cons_self ..) (fmL bits 10)) s1 [(ofString "perm",.val (.ref a)),(ofString "mode",.int bits)]) ?turn ?els ?kk
 case it =>
  refine' JI.enumT ok' ?e1 ?e2
  case e1 => exact JE.bltn ok' (by k_is) boot_enumerate (by decide) (kd hE' rfl)
  case e2 => exact JE.globD ok' (by k_is) (kd hE' rfl) (fun s S X => rel_of_in X ok'.kn 4 (fm_in _))
 case h0 => exact Sub.cons rfl (Sub.cons rfl Sub.nil)
 case els => exact JP.nil fun s S => S.weak (Sub.cons rfl (Sub.cons rfl Sub.nil))
 case kk =>
  refine' JS.ret ?r1 ?r2
  case r1 => exact JE.joinOwn (ys := fmOut bits 10) ok' (JE.cstr) (JE.var ok' rfl) (by decide) hw
  case r2 => exact fun v s S r => RQ.retOwn hn x S r
 case turn =>
 intros i d hd
 obtain ⟨d0,hd0,rfl⟩ := enumL_get hd
 rw [List.getElem?_map] at hd0
 obtain ⟨t,ht,rfl⟩ := Option.map_eq_some_iff.mp hd0
 refine ⟨_,JA.pair ok' (kl hE' rfl) (kl hE' rfl),fun s2 e2 => ?_⟩
 refine' JS.forrR ok' (ds := fmRow t) ?it2 (fun j => ∀ p ∈ t.take j,fmHit bits i p = false) ?R0 (fun _ => Asr.list a (List.mem_cons_self ..) (fmL bits i)) rfl
  (fun _ => [(ofString "index",.int i),(ofString "perm",.val (.ref a)),(ofString "mode",.int bits)]) ?h02
  (Sto (c.own a) (Asr.list a (List.mem_cons_self ..) (fmL bits (i + 1))) s2 [(ofString "perm",.val (.ref a)),(ofString "mode",.int bits)]) ?turn2 ?els2 ?kk2
 case it2 => exact JI.tup ok' (JE.var ok' rfl)
 case R0 => intros p hp;simp at hp
 case h02 => exact Sub.cons rfl (Sub.cons rfl (Sub.cons rfl Sub.nil))
 case kk2 => exact JP.nil fun s S => S
 case els2 =>
  intro R
  have e := fmPick_none (bits := bits) (i := i) (t := t) (by simpa [fmRow] using R)
  refine' JS.iff (q := ((i : Int) == 0)) ?t1 ?t2 ?t3
  case t1 => exact JT.cmp ok' (JE.var ok' rfl) JE.cint BinR.eq
  case t2 =>
   intro hq
   rw [hq] at e
   simp only [if_true,Bool.false_eq_true,if_false] at e
   refine' JS.xex (XE.append ok' (List.mem_cons_self ..) ?u1 ?u2 (fmL_len _ _)) ?u3 ok'
   case u1 => exact JE.var ok' rfl
   case u2 => exact JE.cstr
   case u3 => exact JP.nil fun s S => QN.nil (by rw [fmL_succ ht e] at S;exact S.weak (Sub.cons rfl (Sub.cons rfl Sub.nil)))
  case t3 =>
   intro hq
   rw [hq] at e
   simp only [if_true,Bool.false_eq_true,if_false] at e
   refine' JS.xex (XE.append ok' (List.mem_cons_self ..) ?u1 ?u2 (fmL_len _ _)) ?u3 ok'
   case u1 => exact JE.var ok' rfl
   case u2 => exact JE.cstr
   case u3 => exact JP.nil fun s S => QN.nil (by rw [fmL_succ ht e] at S;exact S.weak (Sub.cons rfl (Sub.cons rfl Sub.nil)))
 case turn2 =>
 intros j d hd R
 unfold fmRow at hd
 rw [List.getElem?_map] at hd
 obtain ⟨p,hp,rfl⟩ := Option.map_eq_some_iff.mp hd
 refine ⟨_,JA.pair ok' (kl hE' rfl) (kl hE' rfl),fun s3 e3 => ?_⟩
 have hh : fmHit bits i p = if ((i : Int) == 0) then Builtin.bitAnd bits 61440 == p.1 else Builtin.bitAnd bits p.1 == p.1 := rfl
 refine' JS.iff (q := ((i : Int) == 0)) ?t1 ?t2 ?t3
 case t1 => exact JT.cmp ok' (JE.var ok' rfl) JE.cint BinR.eq
 case t2 =>
  intro hq
  rw [hq] at hh
  refine' JS.iff (q := Builtin.bitAnd bits 61440 == p.1) ?v1 ?v2 ?v3
  case v1 => exact JT.cmp ok' (JE.call ok' (by decide) (JE.glob ok' (by k_is) (kd hE' rfl)) (by k_is) (JEs.cons (JE.var ok' rfl) JEs.nil) (spec_ifmt _)) (JE.var ok' rfl) BinR.eq
  case v2 =>
   intro hv
   refine' JS.xex (XE.append ok' (List.mem_cons_self ..) ?u1 ?u2 (fmL_len _ _)) ?u3 ok'
   case u1 => exact JE.var ok' rfl
   case u2 => exact JE.var ok' rfl
   case u3 => exact JS.brk fun s S => by rw [fmL_succ ht (fmPick_hit R hp (hh.trans hv))] at S;exact (S.rebase e3).weak (Sub.cons rfl (Sub.cons rfl Sub.nil))
  case v3 => exact fun hv => JP.nil fun s S => QN.nil (QN.nil ⟨take_succ_all R hp (hh.trans hv),S.weak (Sub.cons rfl (Sub.cons rfl (Sub.cons rfl Sub.nil)))⟩)
 case t3 =>
  intro hq
  rw [hq] at hh
  refine' JS.iff (q := Builtin.bitAnd bits p.1 == p.1) ?v1 ?v2 ?v3
  case v1 => exact JT.cmp ok' (JE.bin ok' (JE.var ok' rfl) (JE.var ok' rfl) BinR.and) (JE.var ok' rfl) BinR.eq
  case v2 =>
   intro hv
   refine' JS.xex (XE.append ok' (List.mem_cons_self ..) ?u1 ?u2 (fmL_len _ _)) ?u3 ok'
   case u1 => exact JE.var ok' rfl
   case u2 => exact JE.var ok' rfl
   case u3 => exact JS.brk fun s S => by rw [fmL_succ ht (fmPick_hit R hp (hh.trans hv))] at S;exact (S.rebase e3).weak (Sub.cons rfl (Sub.cons rfl Sub.nil))
  case v3 => exact fun hv => JP.nil fun s S => QN.nil (QN.nil ⟨take_succ_all R hp (hh.trans hv),S.weak (Sub.cons rfl (Sub.cons rfl (Sub.cons rfl Sub.nil)))⟩)
section
set_option maxHeartbeats 2000000
set_option tactic.hygienic true in
theorem fmPick_len (bits : Int) (i : Nat) (t : List (Int × Str)) (h : ∀ p ∈ t,p.2.length = 1) : (fmPick bits i t).length = 1 := by
 unfold fmPick
 split
 ·rename_i p hp
  exact h p (List.mem_of_find?_eq_some hp)
 ·split <;> rfl
theorem fmOut_len (bits : Int) : (fmOut bits 10).length = 10 ∧ ∀ x ∈ fmOut bits 10,x.length = 1 := by
 revert bits;intros bits
 refine ⟨rfl,fun x hx => ?_⟩
 unfold fmOut at hx
 obtain ⟨p,hp,rfl⟩ := List.mem_map.mp hx
 refine fmPick_len _ _ _ ?_
 have h1 : p ∈ fmTables.zipIdx := List.take_subset _ _ hp
 have h2 : p.1 ∈ fmTables := by
  have := List.mem_zipIdx h1
  rw [this.2.2];exact List.getElem_mem _
 revert h2
 generalize p.1 = t
 intro h2
 simp only [fmTables,List.mem_cons,List.not_mem_nil,or_false] at h2
 rcases h2 with rfl | rfl | rfl | rfl | rfl | rfl | rfl | rfl | rfl | rfl <;> (intros q hq;simp only [List.mem_cons,List.not_mem_nil,or_false] at hq;rcases hq with rfl | rfl | rfl | rfl | rfl | rfl | rfl <;> rfl)
theorem sum_const {n : Nat} : ∀ {l : List Str},(∀ x ∈ l,x.length = n) -> (l.map (·.length)).sum = n * l.length
 | [],_ => rfl
 | x :: r,h => by
  have := sum_const fun y hy => h y (List.mem_cons_of_mem _ hy)
  simp only [List.map_cons,List.sum_cons,List.length_cons,this,h x (List.mem_cons_self ..),Nat.mul_add]
  omega
theorem txt_join (x : Str) (l : List Str) : Txt.join x l = Str.join x l := eq_of_beq (join_plain_closes x l)
theorem join10 {l : List Str} (h1 : l.length = 10) (h2 : ∀ x ∈ l,x.length = 1) : (Txt.join (ofString "") l).length ≤ 10 := by
 have h := StrLaws.join_length_le (ofString "") l
 have e : (ofString "").length = 0 := rfl
 have e2 := sum_const h2
 have h3 : (Str.join (ofString "") l).length ≤ 10 := by rw [e2,h1,e] at h;omega
 rw [txt_join];exact h3
theorem fmText_len (bits : Int) : (fmText bits).length ≤ 10 := join10 (fmOut_len bits).1 (fmOut_len bits).2
noncomputable def entD (p : Str × Int) : D := .tup [.str p.1,.int p.2]
noncomputable def FS.laid (a : FA) (σ : FS) (p : Str × Int) : FS := σ.chunk a.maxlen a.liked (p.1,fmText p.2)
theorem spec_laid {w : World} {hb : Heap} {a : FA} {σ : FS} (g : Amb w hb (fW a) (fW a)) (ha : a.Ok) (hf : σ.fits) (hz : σ.lines.length ≤ 800) (hp : σ.parts.length ≤ 800) (p : Str × Int) (hx : p.1.length ≤ 100)
  (hl : a.liked.length ≤ 1000) (hnl : 0 < σ.init -> (σ.top.1 == ofString " " && σ.top.2 == ofString "") = false) :
  SpecX w hb (fW a) (fW a) 10 285 (fI a σ) [.val (.ref a.F),entD p] (.val (.ref a.F)) (fI a (σ.laid a p)) := fun A s vs room hst hsz hW hI hR => by
 refine rels2 hR ?_;clear hR;intro v1 v2 r1 r2
 refine' spec_enterX (I := fI a σ) (ρ := [(ofString "entry",entD p),(ofString "formatter",.val (.ref a.F))]) (binds := [(ofString "formatter",v1),(ofString "entry",v2)]) g room hst hsz hW hI ?ho ?hcd ?hbind ⟨rfl,r2,rfl,r1,trivial⟩ ?hkind ?hnd ?h ?hco ?hgen ?hk
 case ho => k_is
 case hcd => k_is
 case hbind => rfl
 case hkind => rfl
 case hnd => decide
 case hco => rfl
 case hgen => rfl
 case hk => rfl
 intro A' env s0 L hE ok
 have hE' : (Cx.mk w hb (fW a) (fW a) A' env).env = _ := hE
 have hft := fmText_len p.2
 have hfo := fmOut_len p.2
 refine JS.xex (c := Cx.mk w hb (fW a) (fW a) A' env) (I := fI a σ) (I' := fI a (σ.laid a p)) (XE.meth (x := a.F) (dx := a.dF) (C := 94) (m := 9) (ds := [.str p.1,.str (fmText p.2)]) ok (by decide) (JE.var ok rfl) fI_for rfl (by k_is) (by k_is) (by k_is) (by k_is)
  (JEs.cons (JE.sub ok (JE.var ok (d := .tup [.str p.1,.int p.2]) rfl) JE.cint (SubR.tup (j := 0) rfl rfl (by decide) (by decide))) (JEs.cons (JE.call ok (m := 2) (by decide) (JE.glob ok (by k_is) (kd hE' rfl)) (by k_is) (JEs.cons (JE.sub ok (JE.var ok (d := .tup [.str p.1,.int p.2]) rfl) JE.cint (SubR.tup (j := 1) rfl rfl (by decide) (by decide))) JEs.nil rfl) (spec_filemode p.2 (by rw [sum_const hfo.2,hfo.1];decide))) JEs.nil rfl) rfl)
  (spec_chunk g ha hf hz hp p.1 (fmText p.2) hx (by omega) hl hnl)) ?_ ok
 exact JS.ret (JE.var ok rfl) fun v s S r => RQX.ret S r id
end
theorem BinR.pow2 {b : Int} (h0 : 0 ≤ b) (h : b ≤ 1000) : BinR (binaryOp .Pow) (.int 2) (.int b) (.int (2 ^ b.toNat)) := by
 refine BinR.pow h0 ?_
 have : Builtin.Int.intBits 2 = 2 := by decide +kernel
 rw [this];omega
noncomputable def hasS (x y : Str) : Bool := !(Builtin.Str.occurrences x y 0 x.length 1).isEmpty
theorem BinR.inB {x y : Str} : BinR (compareOp .In) (.str y) (.str x) (.bool (hasS x y)) := BinR.inS
noncomputable def rightV (k : Nat) (x : Str) : Int := (if hasS (ofString "rwxst") x then 2 ^ (8 - (k : Int)).toNat else 0)
noncomputable def rightW (k : Nat) (x : Str) : Int := (if hasS (ofString "sStT") x then 2 ^ (11 - (k : Int) / 3).toNat else 0)
theorem JE.intify {c : Cx} {I : Asr c.W} {ρ : List (Str × D)} {t a b : Expr} {pos : Pos} {q : Bool} {x1 x2 : Int} (h1 : JT c I ρ t q) (h2 : q = true -> JE c I ρ a (.int x1)) (h3 : q = false -> JE c I ρ b (.int x2)) : JE c I ρ (.IfExp t a b pos) (.int (if q then x1 else x2)) :=
 JE.ifx h1 (fun e => by subst e;exact h2 rfl) (fun e => by subst e;exact h3 rfl)
theorem spec_right (total : Int) (k : Nat) (x : Str) (hk8 : k ≤ 8) : Spec 1 292 [.int total,.tup [.int k,.str x]] (.int (total + rightV k x + rightW k x)) := fun w hb W A s vs g room hst hsz hW hR => by
 refine rels2 hR ?_;clear hR;intro v1 v2 r1 r2
 refine' spec_enter (ρ := [(ofString "pair",.tup [.int k,.str x]),(ofString "total",.int total)]) (binds := [(ofString "total",v1),(ofString "pair",v2)]) g room hst hsz hW ?ho ?hcd ?hbind ⟨rfl,r2,rfl,r1,trivial⟩ ?hkind ?hnd ?h ?hco ?hgen ?hk
 case ho => k_is
 case hcd => k_is
 case hbind => rfl
 case hkind => rfl
 case hnd => decide
 case hco => rfl
 case hgen => rfl
 case hk => rfl
 intro c s0 L hE hU ok
 refine' JS.assign ok (d := .int (rightV k x)) ?h1 ?h2 ?h3
 case h3 => exact kl hE rfl
 case h1 =>
  refine' JE.intify ?t1 ?t2 ?t3
  case t1 => exact JT.cmp ok (JE.sub ok (JE.var ok rfl) JE.cint (SubR.tup (j := 1) rfl rfl (by decide) (by decide))) JE.cstr BinR.inB
  case t2 => intro _;exact JE.bin ok JE.cint (JE.bin ok JE.cint (JE.sub ok (JE.var ok rfl) JE.cint (SubR.tup (j := 0) rfl rfl (by decide) (by decide))) BinR.sub) (BinR.pow2 (by omega) (by omega))
  case t3 => intro _;exact JE.cint
 case h2 =>
 refine' JS.ret ?r1 ?r2
 case r2 => exact fun v s S r => RQ.ret S r
 case r1 =>
  refine' JE.bin ok ?a1 ?a2 BinR.add
  case a1 => exact JE.bin ok (JE.var ok rfl) (JE.var ok rfl) BinR.add
  case a2 =>
   refine' JE.conv (JE.intify ?t1 ?t2 ?t3) ?t4
   case t1 => exact JT.cmp ok (JE.sub ok (JE.var ok rfl) JE.cint (SubR.tup (j := 1) rfl rfl (by decide) (by decide))) JE.cstr BinR.inB
   case t2 => intro _;exact JE.bin ok JE.cint (JE.bin ok JE.cint (JE.bin ok (JE.sub ok (JE.var ok rfl) JE.cint (SubR.tup (j := 0) rfl rfl (by decide) (by decide))) JE.cint (BinR.div (by omega) (by omega))) BinR.sub) (BinR.pow2 (by omega) (by omega))
   case t3 => intro _;exact JE.cint
   case t4 => exact rfl
section
set_option maxHeartbeats 1000000
section
variable {c : Cx} {I I' : Asr c.W} {ρ : List (Str × D)} {n : Nat} {s0 : Shared} {Q : Flow -> Shared -> Prop} {rest : List Stmt}
noncomputable def ItSt (c : Cx) (s0 : Shared) (ds : List D) (itv : Value) (s : Shared) : Prop :=
 ∃ fp T,IterAt c.w c.A c.W itv ds fp T ∧ T 0 s.heap ∧ (∀ b ∈ fp,b ∉ c.V ∧ b ∉ c.W ∧ c.hb.get? b = none ∧ b ∉ FV c.env) ∧ (∀ b ∈ fp,s0.heap.get? b = none)
theorem ItSt.step {ds : List D} {itv : Value} {s s' : Shared} (x : ItSt c s0 ds itv s) (S : Sta c I ρ s) (e : Ext (FV c.env) s s') : ItSt c s0 ds itv s' := by
 obtain ⟨fp,T,W,t0,h1,h2⟩ := x
 exact ⟨fp,T,W,W.frame (FV c.env) _ _ _ (fun b q => ⟨fun q' => (h1 b q').2.2.2 q,.inr (S.loc.noSeq b q).2⟩) e.keep t0,h1,h2⟩
theorem JS.assignI {x : Str} {px pos : Pos} {e : Expr} {d : D} {ds : List D} {itv : Value} (ok : c.Ok n) (h : JE c I ρ e d) (k : JP c (fun s => Sto c I s0 ((x,d) :: ρ) s ∧ ItSt c s0 ds itv s) rest Q) (hk : StoOk c x)
  (hs : swapsWith e (some (.Name x px)) pos.line c.env = pure false := by rfl) : JP c (fun s => Sto c I s0 ρ s ∧ ItSt c s0 ds itv s) (.Assign [.Name x px] e pos :: rest) Q := JP.step fun s ⟨S,hP⟩ => by
 refine wpAny_Assign_Name (fin (h s S.sta) fun v s1 q => ?_) hs
 have S1 := S.ext0 q.1
 exact fin (store_var ok hk S1.sta q.2) fun _ s2 r => k s2 ⟨⟨S1.ext.trans (r.1.mono fv_sub),r.2⟩,(hP.step S.sta q.1.nil).step S1.sta r.1⟩
theorem JS.iffI {t : Expr} {a b : List Stmt} {pos : Pos} {q : Bool} {ds : List D} {itv : Value} (h : JT c I ρ t q) (k1 : q = true -> JP c (fun s => Sto c I s0 ρ s ∧ ItSt c s0 ds itv s) a (QN c rest Q)) (k2 : q = false -> JP c (fun s => Sto c I s0 ρ s ∧ ItSt c s0 ds itv s) b (QN c rest Q)) :
  JP c (fun s => Sto c I s0 ρ s ∧ ItSt c s0 ds itv s) (.If t a b pos :: rest) Q := JP.step fun s ⟨S,hP⟩ => by
 refine wpAny_If (fin (h s S.sta) fun v s1 x => ?_)
 obtain ⟨x1,rfl⟩ := x
 cases v with
 | true => exact k1 rfl s1 ⟨S.ext0 x1,hP.step S.sta x1.nil⟩
 | false => exact k2 rfl s1 ⟨S.ext0 x1,hP.step S.sta x1.nil⟩
theorem XE.call {x : Str} {px pos : Pos} {e : Expr} {args : List Expr} {ds : List D} {d : D} {f : Addr} {m : Nat} (ok : c.Ok n) (hm : m ≤ n) (hf : JE c I ρ (.Name x px) (.val (.ref f))) (hk : keepIn (hd.heap_1 c.w.params) (.ref f) = true)
  (ha : JEs c I ρ (e :: args) ds) (sp : SpecX c.w c.hb c.W c.U m f I ds d I')
  (he : starEach (e :: args) c.env = (false,eval e c.env) :: starEach args c.env := by rfl) (hplain : ∀ pos,(backTo pos (starEach args c.env)).any (·.1) = false := by intro _;rfl)
  (hq : eval (.Call (.Name x px) (e :: args) [] pos) c.env = (do callWith pos (← eval (.Name x px) c.env) [] (backTo pos (starEach (e :: args) c.env)) (backToKw pos (keywordEach [] c.env))) := by rfl) : XE c I ρ (.Call (.Name x px) (e :: args) [] pos) d I' := fun s S => by
 refine Call_ (fin (hf s S) fun u s1 q => ?_) hq
 rw [rval q.2]
 have S1 := S.ext q.1
 refine callWith_K (K := hd.heap_1 c.w.params) (h₀ := c.hb) ok.gr.X hk (fin (ha pos s1 S1) fun vs s2 y => ⟨(S1.ext y.1).kin ok,?_⟩) he (hplain pos)
 have S2 := S1.ext y.1
 refine fin (sp c.A s2 _ (ok.room.le hm) S2.stays.1 S2.stays.2 S2.win S2.asr y.2) fun v s3 z => ?_
 obtain ⟨z1,z2,z3,z4⟩ := z
 exact ⟨(q.1.nil.trans y.1.nil).trans z1,z2,S2.upd ok z1 (fun b hb => hb) (fun b hb => z3 b (ok.sub b hb)) z4⟩
theorem JT.given {l r : Expr} {pos : Pos} {d0 : D} (ok : c.Ok n) (h1 : JE c I ρ l d0) (h2 : JE c I ρ r (.val (.ref 190))) (hd0 : (∃ i,d0 = .int i) ∨ ∃ x,x ∈ c.W ∧ d0 = .val (.ref x)) (hm : behindInMarks .Is r = false := by with_unfolding_all rfl) :
  JT c I ρ (.Compare l [.Is] [r] pos) false := fun s S => by
 refine wpAny_isTrue_Compare1 (fin (h1 s S) fun v s1 x => ?_) hm
 have S1 := S.ext x.1
 refine fin (h2 s1 S1) fun u s2 y => ?_
 rw [rval y.2]
 have S2 := S1.ext y.1
 obtain ⟨o190,h190,hc⟩ : ∃ o,(hd.heap_1 c.w.params).lookup 190 = some o ∧ o.cls ≠ .type "tuple" := ⟨_,by k_is,by decide⟩
 have hy := S2.kin ok _ _ h190
 show wpAny _ _ (isSame v (.ref 190) >>= fun b => pure (Value.bool b)) _ _ _
 have fin2 : (fun (b : Bool) s' => wpAny c.M c.A (pure (Value.bool b)) (fun v s' => wpAny c.M c.A (truthy v) (fun v s' => Ext [] s s' ∧ v = false) NoE s') NoE s') false s2 := wpAny_pure (wpAny_truthy_bool ⟨x.1.trans y.1,rfl⟩)
 refine wpAny_bind ?_
 rcases hd0 with ⟨i,rfl⟩ | ⟨z,hz,rfl⟩
 ·obtain ⟨t,rfl⟩ := rint x.2
  exact wpAny_of_eq (show isSame (.int i t) (.ref 190) = pure false from rfl) fin2
 ·rw [rval x.2]
  obtain ⟨oz,ez⟩ := S2.win z hz
  refine SeqAt.wpAny_isSame_ref_other' (fun q => ?_) ez hy hc fin2
  have h3 := ok.gr.X _ _ h190
  rw [← q,ok.wh z hz] at h3;cases h3
end
end
section
set_option maxHeartbeats 2000000
theorem reduce_go {w : World} {hb : Heap} {W U : List Addr} {A : Around} {s : Shared} {m : Nat} {f : Addr} {sv v0 : Value} (g : Amb w hb W U) (room : Room A (m + 2)) (hst : hb.StaysIn s.heap) (hsz : hb.objs.size ≤ s.heap.objs.size) (hW : WIn W s.heap)
  (Is : Nat -> Asr W) (hI : (Is 0).P s.heap) (accs : Nat -> D) (ds : List D) (fp0 : List Addr) (hk : keepIn (hd.heap_1 w.params) (.ref f) = true)
  (steps : ∀ i d,ds[i]? = some d -> SpecX w hb W U m f (Is i) [accs i,d] (accs (i + 1)) (Is (i + 1))) (hv0 : Rel W s.heap (accs 0) v0) (hd0 : (∃ i,accs 0 = .int i) ∨ ∃ x,x ∈ W ∧ accs 0 = .val (.ref x))
  (hfp0 : ∀ b ∈ fp0,b ∉ W ∧ hb.get? b = none ∧ ∃ o,s.heap.get? b = some o)
  (hit : ∀ (A' : Around) s1,A'.handled = none -> Ext [] s s1 -> wpAny (model PR w) A' (call (.builtin "iter") [sv]) (fun itv s3 => Ext [] s1 s3 ∧ ∃ fp T,(∀ A : Around,A.handled = none -> IterAt w A W itv ds fp T) ∧ T 0 s3.heap ∧ ∀ b ∈ fp,b ∈ fp0 ∨ s1.heap.get? b = none) NoE s1) :
  wpAny (model PR w) A (call (.ref 198) [.ref f,sv,v0]) (fun v s' => Ext (U ++ fp0) s s' ∧ Rel W s'.heap (accs ds.length) v ∧ WIn W s'.heap ∧ (Is ds.length).P s'.heap) NoE s := by
 have X : (hd.heap_1 w.params).In s.heap := fun b o e => hst b o (g.g.X b o e)
 refine wpAny_call ?_
 refine' spec_enterG (m := m + 1) (I := Is 0) (ρ := [(ofString "initial",accs 0),(ofString "sequence",.val sv),(ofString "function",.val (.ref f))])
  (binds := [(ofString "function",.ref f),(ofString "sequence",sv),(ofString "initial",v0)]) g room hst hsz hW hI ?ho ?hcd ?hbind ?hρ ?hloc ?hcell ?h ?hco ?hgen ?hk
 case ho => k_is
 case hcd => k_is
 case hbind => exact binds_K X rfl (by k_is) rfl rfl rfl
 case hρ =>
  intro x d e
  have key : ∀ (l : List (Str × D)) (b : List (Str × Value)),BRel W s.heap l b -> ∀ x d,l.lookup x = some d -> ∃ v,b.lookup x = some v ∧ Rel W s.heap d v := fun l b H x d e => H.look e
  obtain ⟨v,h1,h2⟩ := key [(ofString "initial",accs 0),(ofString "sequence",.val sv),(ofString "function",.val (.ref f))] [(ofString "initial",v0),(ofString "sequence",sv),(ofString "function",.ref f)] ⟨rfl,hv0,rfl,mval,rfl,mval,trivial⟩ x d e
  refine ⟨v,h1,h2,?_⟩
  have := mem_of_lookup h1
  simp only [List.mem_cons,Prod.mk.injEq,List.not_mem_nil,or_false] at this
  rcases this with ⟨rfl,_⟩ | ⟨rfl,_⟩ | ⟨rfl,_⟩ <;> rfl
 case hloc => intro x hx;simp only [List.mem_cons,List.not_mem_nil,or_false] at hx;rcases hx with rfl | rfl | rfl <;> rfl
 case hcell => decide
 case hco => rfl
 case hgen => rfl
 case hk => rfl
 intro A' env L0 hE ok hL0 s1 e01 S1
 have hE' : (Cx.mk w hb W U A' env).env = _ := hE
 have hFV : FV env = [L0] := by unfold FV;rw [hE];rfl
 have Sh : Sto (Cx.mk w hb W U A' env) (Is 0) { s1 with heap := hideAll s1.heap fp0 } [(ofString "initial",accs 0),(ofString "sequence",.val sv),(ofString "function",.val (.ref f))] s1 := ⟨⟨fun b o _ eb => of_hideAll _ eb,rfl,fun z => z⟩,S1.sta⟩
 generalize hs0 : ({ s1 with heap := hideAll s1.heap fp0 } : Shared) = s0 at Sh
 have h0none : ∀ b,b ∈ fp0 ∨ s1.heap.get? b = none -> s0.heap.get? b = none := fun b q => by
  subst hs0
  rcases q with q | q
  ·exact hideAll_none _ q
  ·cases q2 : (hideAll s1.heap fp0).get? b with
   | none => rfl
   | some o => rw [of_hideAll _ q2] at q;cases q
 refine (JP.step fun s2 S2 => ?_ : JP (Cx.mk w hb W U A' env) (fun s => Sto (Cx.mk w hb W U A' env) (Is 0) s0 [(ofString "initial",accs 0),(ofString "sequence",.val sv),(ofString "function",.val (.ref f))] s ∧ Ext [] s1 s) _ _) s1 ⟨Sh,Ext.refl _ _⟩
 obtain ⟨S2,e12⟩ := S2
 refine wpAny_Assign_Name (Call_bltn ok (JE.bltn ok (by k_is) boot_iter (by decide) (kdE hE' rfl)) (.inr ⟨_,rfl⟩) (JEs.cons (JE.var ok (d := .val sv) rfl) JEs.nil rfl) S2.sta fun vs s3 e23 r => ?_)
 have S3 := S2.ext0 e23
 refine rels1 r ?_;clear r;intro v r1
 rw [rval r1]
 refine fin (hit A' s3 ok.room.hh (e01.trans (e12.trans e23))) fun itv s4 q4 => ?_
 obtain ⟨e34,fp,T,W4,t4,hfp⟩ := q4
 have S4 := S3.ext0 e34
 have hst4 : ItSt (Cx.mk w hb W U A' env) s0 ds itv s4 := by
  refine ⟨fp,T,W4 A' ok.room.hh,t4,fun b q => ?_,fun b q => ?_⟩
  ·rcases hfp b q with h1 | h1
   ·obtain ⟨a1,a2,o,a3⟩ := hfp0 b h1
    have hb1 : b ∉ FV env := fun q2 => by rw [hFV] at q2;rw [List.mem_singleton.mp q2,hL0] at a3;cases a3
    exact ⟨fun q2 => (List.mem_append.mp q2).elim (fun q3 => a1 (g.sub b q3)) hb1,a1,a2,hb1⟩
   ·have hb1 : b ∉ (Cx.mk w hb W U A' env).V := fun q2 => by obtain ⟨o,eo⟩ := V_live ok S3.sta b q2;rw [h1] at eo;cases eo
    exact ⟨hb1,fun q2 => (by obtain ⟨o,eo⟩ := S3.sta.win b q2;rw [h1] at eo;cases eo),fresh_hb S3.sta.stays.1 h1,fun q2 => hb1 (fv_sub b q2)⟩
  ·rcases hfp b q with h1 | h1
   ·exact h0none b (.inl h1)
   ·refine h0none b (.inr ?_)
    cases q2 : s1.heap.get? b with
    | none => rfl
    | some o => rw [e23.all b o (e12.all b o q2)] at h1;cases h1
 refine fin (store_var ok (kl hE' rfl) S4.sta (mval (i := itv))) fun _ s5 z => ?_
 have S5 : Sto (Cx.mk w hb W U A' env) (Is 0) s0 _ s5 := ⟨S4.ext.trans (z.1.mono fv_sub),z.2⟩
 have hst5 := hst4.step S4.sta z.1
 refine (JS.iffI (c := Cx.mk w hb W U A' env) (I := Is 0) (ρ := (ofString "it",.val itv) :: [(ofString "initial",accs 0),(ofString "sequence",.val sv),(ofString "function",.val (.ref f))]) (q := false) (ds := ds) (itv := itv) (JT.given ok (JE.var ok rfl) (JE.glob ok (by k_is) (kdE hE' rfl)) hd0) (fun q => by cases q) (fun _ => ?_)) s5 ⟨S5,hst5⟩
 refine JS.assignI ok (JE.var ok (d := accs 0) rfl) (JP.next ?_) (kl hE' rfl)
 refine JS.forrI ok (ds := ds) (ItSt (Cx.mk w hb W U A' env) s0 ds itv) (fun s S hP => ?it) (fun _ => True) trivial Is rfl (fun i => [(ofString "value",accs i),(ofString "function",.val (.ref f))]) (Sub.cons rfl (Sub.cons rfl Sub.nil))
  (fun s => Sto (Cx.mk w hb W U A' env) (Is ds.length) s0 [(ofString "value",accs ds.length),(ofString "function",.val (.ref f))] s) (fun i d hd _ => ⟨(ofString "element",d) :: [(ofString "value",accs i),(ofString "function",.val (.ref f))],JA.name ok (kl hE' rfl),fun s1 e1 => ?_⟩) (fun _ => JP.nil fun s S => S) ?_
 case it =>
  refine fin (JE.var (c := Cx.mk w hb W U A' env) (I := Is 0) (d := .val itv) ok rfl (by decide) s S.sta) fun x s6 q6 => ?_
  rw [rval q6.2]
  obtain ⟨fp,T,W6,t6,h1,h2⟩ := hP.step S.sta q6.1.nil
  refine fin (W6.self 0 s6 t6) fun v s7 q7 => ?_
  obtain ⟨rfl,rfl⟩ := q7
  exact ⟨fp,T,W6,t6,q6.1,h1,h2⟩
 ·refine JS.xassign (I' := Is (i + 1)) (d := accs (i + 1)) ok (XE.call ok (m := m) (by omega) (JE.var ok rfl) hk (JEs.cons (JE.var ok (d := accs i) rfl) (JEs.cons (JE.var ok (d := d) rfl) JEs.nil rfl) rfl) (steps i d hd)) ?_ (kl hE' rfl)
  exact JP.nil fun s S => ⟨trivial,S.weak (Sub.cons rfl (Sub.cons rfl Sub.nil))⟩
 ·refine JS.ret (JE.var ok (d := accs ds.length) rfl) fun v s6 S6 r6 => ⟨v,.inl rfl,⟨fun b o nb eb => ?_,?_,fun z => ?_⟩,r6,S6.sta.win,S6.sta.asr⟩
  ·refine S6.ext.keep b o (fun q => ?_) ?_
   ·rcases List.mem_append.mp q with q | q
    ·exact nb (List.mem_append_left _ q)
    ·have q' : b ∈ FV env := q
     rw [hFV] at q'
     rw [List.mem_singleton.mp q',hL0] at eb;cases eb
   ·subst hs0
    exact hideAll_get _ (e01.all b o eb) fun q => nb (List.mem_append_right _ q)
  ·have := S6.ext.os
   subst hs0
   exact this.trans e01.os
  ·have := S6.ext.gens
   subst hs0
   exact this (e01.gens z)
end
noncomputable def ls (x : Str) : List Nat := x.cps.toList
theorem ls_inj {x y : Str} (h : ls x = ls y) : x = y := by
 cases x;cases y
 simp only [ls] at h
 congr 1
 exact Array.toList_inj.mp h
theorem ls_append (x y : Str) : ls (x ++ y) = ls x ++ ls y := by
 show (x.cps ++ y.cps).toList = _
 simp [ls]
theorem ls_len (x : Str) : (ls x).length = x.length := by simp [ls,Str.length]
theorem ls_join0 : ∀ l : List Str,ls (Txt.join (ofString "") l) = l.flatMap ls
 | [] => by rw [txt_join];rfl
 | x :: r => by
  have ih := ls_join0 r
  rw [txt_join] at ih ⊢
  have e : ofString "" = ⟨#[]⟩ := by decide +kernel
  rw [e] at ih ⊢
  rw [PyProof.Rows.join_nil_cons,ls_append,ih];rfl
theorem ls_partText (p : Str × Str) : ls (partText p) = ls p.1 ++ ls p.2 := by
 unfold partText
 rw [ls_join0];simp
theorem ls_text (σ : FS) : ls σ.text = σ.parts.flatMap fun p => ls p.1 ++ ls p.2 := by
 unfold FS.text
 rw [ls_join0,List.flatMap_map]
 congr 1
 funext p
 exact ls_partText p
noncomputable def Ink (x : Str) : Prop := ∃ c,ls x = [c] ∧ Unicode.isSpace c = false
set_option tactic.hygienic true in
theorem ink_pick (bits : Int) (i : Nat) (t : List (Int × Str)) (h : ∀ p ∈ t,Ink p.2) : Ink (fmPick bits i t) := by
 unfold fmPick
 split
 ·rename_i p hp
  exact h p (List.mem_of_find?_eq_some hp)
 ·split
  ·exact ⟨63,by decide +kernel,by decide +kernel⟩
  ·exact ⟨45,by decide +kernel,by decide +kernel⟩
theorem ink_tables : ∀ t ∈ fmTables,∀ p ∈ t,Ink p.2 := by
 have key : (fmTables.all fun t => t.all fun p => match ls p.2 with | [c] => !Unicode.isSpace c | _ => false) = true := by decide +kernel
 intro t ht p hp
 have := List.all_eq_true.mp (List.all_eq_true.mp key t ht) p hp
 revert this
 cases e : ls p.2 with
 | nil => intro h;cases h
 | cons c r =>
  cases r with
  | nil => intro h;exact ⟨c,e,by simpa using h⟩
  | cons _ _ => intro h;cases h
theorem ink_out (bits : Int) : ∀ x ∈ fmOut bits 10,Ink x := by
 intro x hx
 unfold fmOut at hx
 obtain ⟨p,hp,rfl⟩ := List.mem_map.mp hx
 refine ink_pick _ _ _ (ink_tables p.1 ?_)
 have h1 : p ∈ fmTables.zipIdx := List.take_subset _ _ hp
 have := List.mem_zipIdx h1
 rw [this.2.2];exact List.getElem_mem _
theorem ls_fm (bits : Int) : ls (fmText bits) = (fmOut bits 10).flatMap ls := ls_join0 _
theorem fm_len (bits : Int) : (fmText bits).length = 10 := by
 rw [← ls_len,ls_fm,List.length_flatMap]
 have h1 := (fmOut_len bits).1
 have h2 : ∀ x ∈ fmOut bits 10,(ls x).length = 1 := fun x hx => by rw [ls_len];exact (fmOut_len bits).2 x hx
 generalize fmOut bits 10 = l at h1 h2
 have h3 : ∀ l : List Str,(∀ x ∈ l,(ls x).length = 1) -> (l.map fun x => (ls x).length).sum = l.length := fun l => by
  induction l with
  | nil => intro _;rfl
  | cons x r ih => intro h;rw [List.map_cons,List.sum_cons,h x (List.mem_cons_self ..),ih fun y hy => h y (List.mem_cons_of_mem _ hy),List.length_cons];omega
 rw [h3 l h2,h1]
theorem fm_ink (bits : Int) : ∀ c ∈ ls (fmText bits),Unicode.isSpace c = false := by
 intro c hc
 rw [ls_fm] at hc
 obtain ⟨x,hx,hc⟩ := List.mem_flatMap.mp hc
 obtain ⟨c',e,h⟩ := ink_out bits x hx
 rw [e] at hc
 rw [List.mem_singleton.mp hc];exact h
structure Good (σ : FS) (k : Nat) : Prop where
 np : σ.parts.length ≤ k
 nl : σ.lines.length ≤ k
 ne : 0 < k -> σ.parts ≠ []
 pt : ∀ p ∈ σ.parts,p.1.length ≤ 1 ∧ ∃ bits,p.2 = fmText bits
 i0 : 0 ≤ σ.init
 i1 : σ.init < 100000
theorem Good.fits {σ : FS} {k : Nat} (g : Good σ k) (hk : k ≤ 900) : σ.fits := by
 refine ⟨Nat.le_trans g.np hk,fun p hp => ?_,g.i0,g.i1⟩
 obtain ⟨h1,bits,h2⟩ := g.pt p hp
 rw [h2,fm_len]
 omega
theorem Good.top {σ : FS} {k : Nat} (g : Good σ k) : (σ.top.1 == ofString " " && σ.top.2 == ofString "") = false := by
 unfold FS.top
 cases h : σ.parts.getLast? with
 | none => decide +kernel
 | some p =>
  obtain ⟨_,bits,h2⟩ := g.pt p (List.mem_of_getLast? h)
  have : (p.2 == ofString "") = false := by
   rw [h2]
   cases q : fmText bits == ofString "" with
   | false => rfl
   | true =>
    have := fm_len bits
    rw [eq_of_beq q] at this
    exact absurd this (by decide)
  rw [Option.getD_some,this,Bool.and_false]
theorem Good.push {σ : FS} {k : Nat} (g : Good σ k) {x : Str} {bits : Int} (hx : x.length ≤ 1) : Good (σ.push (x,fmText bits)) (k + 1) := by
 refine ⟨by simp [FS.push];exact g.np,Nat.le_succ_of_le g.nl,fun _ => by simp [FS.push],fun p hp => ?_,g.i0,g.i1⟩
 rcases List.mem_append.mp (show p ∈ σ.parts ++ [(x,fmText bits)] from hp) with z | z
 ·exact g.pt p z
 ·rw [List.mem_singleton.mp z];exact ⟨hx,bits,rfl⟩
theorem Good.chunk {σ : FS} {k : Nat} (g : Good σ k) {width : Int} {liked x : Str} {bits : Int} (hx : x.length ≤ 1) : Good (σ.chunk width liked (x,fmText bits)) (k + 1) := by
 revert σ k width liked x bits;intros σ k g width liked x bits hx
 have gp := g.push (bits := bits) hx
 unfold FS.chunk
 split
 ·split
  ·rename_i i hi
   have hil := choose_lt hi
   refine ⟨?_,?_,fun _ => ?_,fun p hp => gp.pt p (List.drop_subset _ _ hp),Int.le_refl 0,(by show (0:Int) < 100000;decide)⟩
   ·show ((σ.push (x,fmText bits)).parts.drop i).length ≤ k + 1
    have := gp.np
    simp only [List.length_drop];omega
   ·show (σ.lines ++ [_]).length ≤ k + 1
    have := g.nl
    simp;omega
   ·show (σ.push (x,fmText bits)).parts.drop i ≠ []
    intro h
    have := congrArg List.length h
    simp only [List.length_drop,List.length_nil] at this
    omega
  ·split
   ·refine ⟨by show ([] ++ [_] : List (Str × Str)).length ≤ k + 1;simp,?_,fun _ => by simp [FS.push],fun p hp => ?_,Int.le_refl 0,(by show (0:Int) < 100000;decide)⟩
    ·show (σ.lines ++ [_]).length ≤ k + 1
     have := g.nl
     simp;omega
    ·rcases List.mem_append.mp (show p ∈ [] ++ [(_,fmText bits)] from hp) with z | z
     ·cases z
     ·rw [List.mem_singleton.mp z]
      refine ⟨?_,bits,rfl⟩
      show (if _ then _ else _ : Str).length ≤ 1
      split
      ·decide
      ·exact hx
   ·exact gp
 ·exact gp
set_option tactic.hygienic true in
theorem again_eq {σ : FS} (h : σ.parts ≠ []) : σ.again = σ := by
 unfold FS.again FS.push FS.pop FS.top
 cases σ
 rename_i lines parts init
 simp only at h
 simp only [List.getLast?_eq_some_getLast h,Option.getD_some]
 rw [List.dropLast_concat_getLast h]
theorem Good.ink {σ : FS} {k : Nat} (g : Good σ k) (hk : 0 < k) : 0 < σ.len ∧ σ.onlyws = false := by
 revert σ k;intros σ k g hk
 obtain @⟨p,hp⟩ := List.exists_mem_of_ne_nil _ (g.ne hk)
 obtain @⟨h1,bits,h2⟩ := g.pt p hp
 have hl := fm_len bits
 have hcs : ∃ c,c ∈ ls (fmText bits) := by
  cases e : ls (fmText bits) with
  | nil => rw [← ls_len,e] at hl;cases hl
  | cons c r => exact ⟨c,List.mem_cons_self ..⟩
 obtain @⟨c,hc⟩ := hcs
 have hct : c ∈ ls σ.text := by
  rw [ls_text]
  refine List.mem_flatMap.mpr ⟨p,hp,List.mem_append_right _ ?_⟩
  rw [h2];exact hc
 have hsp : Txt.isspace σ.text = false := by
  unfold Txt.isspace
  have : σ.text.cps.all Unicode.isSpace = false := by
   rw [← Array.all_toList]
   rw [← Bool.not_eq_true,List.all_eq_true]
   intro h
   have := h c hct
   rw [fm_ink bits c hc] at this;cases this
  rw [this,Bool.and_false]
 have hpos : 0 < σ.len := by
  have h3 : ∀ (l : List (Str × Str)),(∀ q ∈ l,0 ≤ partLen q) -> p ∈ l -> partLen p ≤ (l.map partLen).sum := fun l => by
   induction l with
   | nil => intro _ h;cases h
   | cons q r ih =>
    intro h0 h
    have hr : ∀ (r : List (Str × Str)),(∀ q ∈ r,0 ≤ partLen q) -> 0 ≤ (r.map partLen).sum := fun r => by
     induction r with
     | nil => intro _;exact Int.le_refl 0
     | cons a b ih2 =>
      intro h
      have := ih2 fun q hq => h q (List.mem_cons_of_mem _ hq)
      have := h a (List.mem_cons_self ..)
      simp only [List.map_cons,List.sum_cons];omega
    have hq := h0 q (List.mem_cons_self ..)
    have hr' := hr r fun q hq => h0 q (List.mem_cons_of_mem _ hq)
    simp only [List.map_cons,List.sum_cons]
    rcases List.mem_cons.mp h with rfl | h
    ·omega
    ·have := ih (fun q hq => h0 q (List.mem_cons_of_mem _ hq)) h;omega
  have h4 := h3 σ.parts (fun q _ => by unfold partLen;omega) hp
  have h5 : 10 ≤ partLen p := by unfold partLen;rw [h2,hl];omega
  have := g.i0
  unfold FS.len;omega
 refine ⟨hpos,?_⟩
 have h6 : (σ.len == 0) = false := by simp;omega
 unfold FS.onlyws
 rw [h6,hsp];simp
noncomputable def runFS (width : Int) (liked : Str) (head : Int) (es : List (Str × Int)) : FS := es.foldl (fun σ p => σ.chunk width liked (p.1,fmText p.2)) ⟨[],[],head⟩
theorem run_step {width : Int} {liked : Str} {head : Int} {es : List (Str × Int)} {i : Nat} {p : Str × Int} (h : es[i]? = some p) : runFS width liked head (es.take (i + 1)) = (runFS width liked head (es.take i)).chunk width liked (p.1,fmText p.2) := by
 unfold runFS
 rw [List.take_add_one,h,Option.toList_some,List.foldl_append];rfl
theorem run_good {width : Int} {liked : Str} {head : Int} {es : List (Str × Int)} (h0 : 0 ≤ head) (h1 : head < 100000) (hx : ∀ p ∈ es,p.1.length ≤ 1) : ∀ i,i ≤ es.length -> Good (runFS width liked head (es.take i)) i
 | 0,_ => ⟨Nat.le_refl 0,Nat.le_refl 0,fun h => absurd h (Nat.lt_irrefl _),fun p hp => (by cases hp),h0,h1⟩
 | i + 1,hi => by
  have e : es[i]? = some es[i] := List.getElem?_eq_getElem (by omega)
  rw [run_step e]
  exact (run_good h0 h1 hx i (by omega)).chunk (hx _ (List.getElem_mem _))
noncomputable def Short (σ : FS) (N : Nat) : Prop := ∀ x ∈ σ.lines,x.length ≤ N
theorem text_len {σ : FS} {k : Nat} (h : ∀ p ∈ σ.parts,p.1.length ≤ 1 ∧ p.2.length ≤ 10) (hk : σ.parts.length ≤ k) : σ.text.length ≤ 11 * k := by
 rw [← ls_len,ls_text,List.length_flatMap]
 have h3 : ∀ l : List (Str × Str),(∀ p ∈ l,p.1.length ≤ 1 ∧ p.2.length ≤ 10) -> (l.map fun p => (ls p.1 ++ ls p.2).length).sum ≤ 11 * l.length := fun l => by
  induction l with
  | nil => intro _;exact Nat.le_refl 0
  | cons x r ih =>
   intro h
   have := ih fun p hp => h p (List.mem_cons_of_mem _ hp)
   have := h x (List.mem_cons_self ..)
   simp only [List.map_cons,List.sum_cons,List.length_cons,List.length_append,ls_len] at *
   omega
 have := h3 σ.parts h
 omega
theorem Good.lens {σ : FS} {k : Nat} (g : Good σ k) : ∀ p ∈ σ.parts,p.1.length ≤ 1 ∧ p.2.length ≤ 10 := fun p hp => by
 obtain ⟨h1,bits,h2⟩ := g.pt p hp
 rw [h2,fm_len];omega
theorem again_lens {σ : FS} {k : Nat} (g : Good σ k) : (∀ p ∈ σ.again.parts,p.1.length ≤ 1 ∧ p.2.length ≤ 10) ∧ σ.again.parts.length ≤ k + 1 := by
 by_cases h : σ.parts = []
 ·have : σ.again.parts = [(ofString "",ofString "")] := by
   show σ.parts.dropLast ++ [σ.top] = _
   unfold FS.top
   rw [h];rfl
  rw [this]
  exact ⟨fun p hp => (by rw [List.mem_singleton.mp hp];decide),by simp⟩
 ·rw [again_eq h];exact ⟨g.lens,Nat.le_succ_of_le g.np⟩
theorem Short.chunk {σ : FS} {k N : Nat} (g : Good σ k) (s : Short σ N) (hN : 11 * (k + 1) ≤ N) {width : Int} {liked x : Str} {bits : Int} (hx : x.length ≤ 1) : Short (σ.chunk width liked (x,fmText bits)) N := by
 have gp := g.push (bits := bits) hx
 unfold FS.chunk
 split
 ·split
  ·rename_i i hi
   intro y hy
   rcases List.mem_append.mp (show y ∈ σ.lines ++ [_] from hy) with z | z
   ·exact s y z
   ·rw [List.mem_singleton.mp z]
    exact Nat.le_trans (text_len (k := k + 1) (fun p hp => gp.lens p (List.take_subset _ _ hp)) (by
     show ((σ.push (x,fmText bits)).parts.take i).length ≤ k + 1
     have := gp.np
     simp only [List.length_take];omega)) hN
  ·split
   ·intro y hy
    rcases List.mem_append.mp (show y ∈ σ.lines ++ [_] from hy) with z | z
    ·exact s y z
    ·rw [List.mem_singleton.mp z]
     exact Nat.le_trans (text_len (again_lens g).1 (again_lens g).2) hN
   ·exact s
 ·exact s
theorem run_short {width : Int} {liked : Str} {head : Int} {es : List (Str × Int)} {N : Nat} (h0 : 0 ≤ head) (h1 : head < 100000) (hx : ∀ p ∈ es,p.1.length ≤ 1) (hN : 11 * es.length ≤ N) : ∀ i,i ≤ es.length -> Short (runFS width liked head (es.take i)) N
 | 0,_ => fun x hx => by cases hx
 | i + 1,hi => by
  have e : es[i]? = some es[i] := List.getElem?_eq_getElem (by omega)
  rw [run_step e]
  exact (run_short h0 h1 hx hN i (by omega)).chunk (run_good h0 h1 hx i (by omega)) (by omega) (hx _ (List.getElem_mem _))
noncomputable def shownOf (width : Int) (liked : Str) (head : Int) (es : List (Str × Int)) : Str := Txt.join (ofString "\n") (runFS width liked head es).newl.lines
theorem newl_lens {width : Int} {liked : Str} {head : Int} {es : List (Str × Int)} (h0 : 0 ≤ head) (h1 : head < 100000) (hx : ∀ p ∈ es,p.1.length ≤ 1) (hn : es.length ≤ 64) :
  (((runFS width liked head es).newl.lines.map (·.length)).sum + (runFS width liked head es).newl.lines.length ≤ 1048576) := by
 have g := run_good (width := width) (liked := liked) h0 h1 hx es.length (Nat.le_refl _)
 have s := run_short (width := width) (liked := liked) (N := 715) h0 h1 hx (by omega) es.length (Nat.le_refl _)
 rw [List.take_length] at g s
 have hl : (runFS width liked head es).newl.lines = (runFS width liked head es).lines ++ [(runFS width liked head es).again.text] := rfl
 have hs : ∀ x ∈ (runFS width liked head es).newl.lines,x.length ≤ 715 := fun x hx => by
  rw [hl] at hx
  rcases List.mem_append.mp hx with z | z
  ·exact s x z
  ·rw [List.mem_singleton.mp z]
   exact Nat.le_trans (text_len (again_lens g).1 (again_lens g).2) (by omega)
 have h2 := strs_sum_le hs
 have h3 : (runFS width liked head es).newl.lines.length ≤ 65 := by rw [hl];have := g.nl;simp;omega
 omega
section
set_option maxHeartbeats 4000000
noncomputable abbrev lawW : List Addr := [184,140,147]
noncomputable def lawI : Asr lawW where
 P := fun h => (∃ ps,h.get? 184 = some (tabObj ps)) ∧ TabP h 140 ∧ TabP h 147
 st := fun V h h' k hV ⟨⟨ps,e⟩,x,y⟩ => ⟨⟨ps,k _ _ (fun q => (hV _ q).1 (by simp)) e⟩,x.move k (fun q => (hV _ q).1 (by simp)),y.move k (fun q => (hV _ q).1 (by simp))⟩
theorem iter_list {w : World} {W : List Addr} {ds : List D} {v : Value} {s : Shared} (hr : Rel W s.heap (.lst ds) v) (A' : Around) (s1 : Shared) (hA : A'.handled = none) (e : Ext [] s s1) :
  wpAny (model PR w) A' (call (.builtin "iter") [v]) (fun itv s3 => Ext [] s1 s3 ∧ ∃ fp T,(∀ A : Around,A.handled = none -> IterAt w A W itv ds fp T) ∧ T 0 s3.heap ∧ ∀ b ∈ fp,b ∈ ([] : List Addr) ∨ s1.heap.get? b = none) NoE s1 := by
 obtain ⟨l,vs,rfl,hl,hL,hR⟩ := rlst (hr.ext e)
 refine call_function_entry (by decide +kernel) (by decide +kernel) kdk_entry_iter (kdk_args_iter _) ?_
 unfold Builtin.«iter»
 refine wpAny_bind (m := someArgs "iter" 1 2 _) (wpAny_of_eq (a := [Value.ref l]) (by first | rfl | kernel_rfl!) ?_)
 show wpAny _ _ (pyIter (.ref l) >>= _) _ _ _
 have hne : l ≠ s1.heap.objs.size := by obtain ⟨o,e,_⟩ := hL;exact Nat.ne_of_lt (Heap.lt_size e)
 refine wpAny_bind (wpAny_pyIter_list hL (wpAny_pure ⟨_,rfl,Ext.push,[s1.heap.objs.size],_,fun A hA => IterAt.lst (vs := vs) hA hne hl,⟨⟨_,Heap.get?_push_size _ rfl,rfl,rfl⟩,isList_move hL fun o e => Heap.get?_push_of_some _ e,hR.ext Ext.push⟩,fun b hb => .inr ?_⟩))
 rw [List.mem_singleton.mp hb]
 exact Heap.get?_none_of_le (Nat.le_refl _)
theorem xe_shown {w : World} {hb : Heap} {A : Around} {env : Env} {n : Nat} {ρ : List (Str × D)} {es : List (Str × Int)} {head width : Int} {liked : Str} {p1 p2 p3 p4 p5 p6 p7 p8 p9 pa pb pc pd : Pos} {kc1 kc2 : Nat} (g : Gr w hb) (ok : (Cx.mk w hb lawW lawW A env).Ok n) (hn : 14 ≤ n)
  (k1 : env.kindOf (ofString "reduce") = some .globalImplicit) (k2 : env.kindOf (ofString "_law_laid") = some .globalImplicit) (k3 : env.kindOf (ofString "_ValueFormatter") = some .globalImplicit)
  (v1 : ρ.lookup (ofString "entries") = some (.lst (es.map entD))) (v2 : ρ.lookup (ofString "head") = some (.int head)) (v3 : ρ.lookup (ofString "width") = some (.int width)) (v4 : ρ.lookup (ofString "liked") = some (.str liked))
  (hes : 0 < es.length) (hes2 : es.length ≤ 64) (hx : ∀ p ∈ es,p.1.length ≤ 1) (hl : liked.length ≤ 1000) (h0 : 0 ≤ head) (h1 : head < 100000)
  (he : ∃ pl,eval (.Call (.Attribute (.Call (.Name (ofString "reduce") p1) [.Name (ofString "_law_laid") p2,.Name (ofString "entries") p3,.Call (.Name (ofString "_ValueFormatter") p4) [.Name (ofString "head") p5,.Name (ofString "width") p6,.Constant (.str (ofString " ")) kc1 p7,.Name (ofString "liked") p8] [] p9] [] pa) (ofString "_str") pb) [.Constant (.str (ofString "\n")) kc2 pc] [] pd) env = (do
   let ov ← eval (.Call (.Name (ofString "reduce") p1) [.Name (ofString "_law_laid") p2,.Name (ofString "entries") p3,.Call (.Name (ofString "_ValueFormatter") p4) [.Name (ofString "head") p5,.Name (ofString "width") p6,.Constant (.str (ofString " ")) kc1 p7,.Name (ofString "liked") p8] [] p9] [] pa) env
   standAt pb.atName
   let (f,first) ← holding [ov] (getMethod ov (ofString "_str") pl)
   callWith pd f first (backTo pd (starEach [.Constant (.str (ofString "\n")) kc2 pc] env)) []) := by exact ⟨_,rfl⟩) :
  XE (Cx.mk w hb lawW lawW A env) lawI ρ (.Call (.Attribute (.Call (.Name (ofString "reduce") p1) [.Name (ofString "_law_laid") p2,.Name (ofString "entries") p3,.Call (.Name (ofString "_ValueFormatter") p4) [.Name (ofString "head") p5,.Name (ofString "width") p6,.Constant (.str (ofString " ")) kc1 p7,.Name (ofString "liked") p8] [] p9] [] pa) (ofString "_str") pb) [.Constant (.str (ofString "\n")) kc2 pc] [] pd) (.str (shownOf width liked head es)) lawI := fun s S => by
 obtain ⟨pl,he⟩ := he
 refine MethodCall_ (pl := pl) (Call_ (fin (JE.glob (c := Cx.mk w hb lawW lawW A env) (I := lawI) (v := .ref 198) ok (by k_is) k1 (by decide) s S) fun u s1 q1 => ?_)) he
 rw [rval q1.2]
 have S1 := S.ext q1.1
 refine callWith_K (K := hd.heap_1 w.params) (h₀ := hb) g.X (by k_is) (spliced_more (fin (JE.glob (c := Cx.mk w hb lawW lawW A env) (I := lawI) (v := .ref 285) ok (by k_is) k2 (by decide) s1 S1) fun v2' s2 q2 => spliced_more (fin (JE.var (c := Cx.mk w hb lawW lawW A env) (I := lawI) ok v1 (by decide) s2 (S1.ext q2.1)) fun v3' s3 q3 => spliced_more ?_)))
 rw [rval q2.2]
 have S3 := (S1.ext q2.1).ext q3.1
 refine Call_ (fin (JE.glob (c := Cx.mk w hb lawW lawW A env) (I := lawI) (v := .ref 94) ok (by k_is) k3 (by decide) s3 S3) fun u4 s4 q4 => ?_)
 rw [rval q4.2]
 have S4 := S3.ext q4.1
 refine callWith_K (K := hd.heap_1 w.params) (h₀ := hb) g.X (by k_is) (fin (JEs.cons (JE.var (c := Cx.mk w hb lawW lawW A env) (I := lawI) ok v2 (by decide)) (JEs.cons (JE.var ok v3 (by decide)) (JEs.cons JE.cstr (JEs.cons (JE.var ok v4 (by decide)) JEs.nil rfl) rfl) rfl) rfl _ s4 S4) fun vs s5 q5 => ⟨(S4.ext q5.1).kin ok,?_⟩)
 have S5 := S4.ext q5.1
 have r5 := q5.2
 refine rels4 r5 ?_;clear r5;intro x1 x2 x3 x4 y1 y2 y3 y4
 obtain ⟨t1,rfl⟩ := rint y1
 obtain ⟨t2,rfl⟩ := rint y2
 obtain ⟨t3,rfl⟩ := rstr y3
 obtain ⟨t4,rfl⟩ := rstr y4
 refine fin (make_for (head := head) (width := width) (liked := liked) (t1 := t1) (t2 := t2) (t3 := t3) (t4 := t4) g (ok.room.le (by omega)) S5.stays.1 S5.stays.2 S5.asr.2) fun rv s6 q6 => ?_
 obtain ⟨a,rfl,ha,hmx,hlk,hfr,e6,hP⟩ := q6
 have S6 := S5.ext e6
 refine spliced_none ⟨S6.kin ok,?_⟩
 have hrE : Rel (fW a) s6.heap (.lst (es.map entD)) v3' := by
  have r0 : Rel lawW s5.heap (.lst (es.map entD)) v3' := (q3.2.ext q4.1).ext q5.1
  have r1 : Rel [140,147] s5.heap (.lst (es.map entD)) v3' := r0.narrow
  have w1 := (((((r1.widen (hfr a.dA (by simp))).widen (hfr a.A (by simp))).widen (hfr a.L (by simp))).widen (hfr a.dF (by simp))).widen (hfr a.F (by simp)))
  exact w1.ext e6
 have gA : Amb w hb (fW a) (fW a) := by
  refine ⟨g,fun b q => ?_,fun b q => q⟩
  rcases List.mem_append.mp (show b ∈ [a.F,a.dF,a.L,a.A,a.dA] ++ [140,147] from q) with z | z
  ·exact fresh_hb S5.stays.1 (hfr b z)
  ·exact ok.wh b (List.mem_cons_of_mem _ z)
 have hWin : WIn (fW a) s6.heap := by
  intro b q
  obtain ⟨⟨vs,m,x1,_,es1,n1,_,x2,_⟩,⟨es2,n2,x3,x4,_⟩,⟨vs3,m3,x5,_⟩,⟨ps,x6,_⟩,⟨ps2,x7,_⟩⟩ := hP
  simp only [List.mem_cons,List.not_mem_nil,or_false] at q
  rcases q with rfl | rfl | rfl | rfl | rfl | rfl | rfl
  ·exact ⟨_,x3⟩
  ·exact ⟨_,x4⟩
  ·exact ⟨_,x5⟩
  ·exact ⟨_,x1⟩
  ·exact ⟨_,x2⟩
  ·exact ⟨_,x6⟩
  ·exact ⟨_,x7⟩
 have gone : ∀ {b : Addr},b ∈ fW a ++ [] -> b = env.locals -> False := fun {b} q e => by
  subst e
  rcases List.mem_append.mp (show env.locals ∈ [a.F,a.dF,a.L,a.A,a.dA] ++ [140,147] from by simpa using q) with z | z
  ·obtain ⟨o,eo⟩ := S5.loc.live env.locals (List.mem_cons_self ..)
   rw [hfr _ z] at eo;cases eo
  ·exact S.loc.lo (List.mem_cons_of_mem _ z)
 have hgood := fun i hi => run_good (width := width) (liked := liked) h0 h1 hx i hi
 have red := reduce_go (w := w) (hb := hb) (W := fW a) (U := fW a) (A := A) (s := s6) (m := 10) (f := 285) (sv := v3') (v0 := .ref a.F) gA (ok.room.le (by omega)) S6.stays.1 S6.stays.2 hWin (fun i => fI a (runFS width liked head (es.take i))) hP (fun _ => .val (.ref a.F)) (es.map entD) [] (by k_is) (fun i d hd => ?steps) mval (.inr ⟨a.F,by simp,rfl⟩) (fun b q => nomatch q) (fun A' s1 hA e => iter_list hrE A' s1 hA e)
 case steps =>
  rw [List.getElem?_map] at hd
  obtain ⟨p,hp,rfl⟩ := Option.map_eq_some_iff.mp hd
  have hi : i < es.length := (List.getElem?_eq_some_iff.mp hp).1
  have gd := hgood i (Nat.le_of_lt hi)
  have sp := spec_laid (σ := runFS width liked head (es.take i)) gA ha (gd.fits (by omega)) (Nat.le_trans gd.nl (by omega)) (Nat.le_trans gd.np (by omega)) p (Nat.le_trans (hx p (List.mem_of_getElem? hp)) (by decide)) (by rw [hlk];exact hl) (fun _ => gd.top)
  have e2 : (runFS width liked head (es.take i)).laid a p = runFS width liked head (es.take (i + 1)) := by
   rw [run_step hp];unfold FS.laid;rw [hmx,hlk]
  rw [e2] at sp
  exact sp
 refine fin red fun rv s7 q7 => ?_
 obtain ⟨e7,r7,w7,i7⟩ := q7
 rw [rval r7]
 have hlenm : (es.map entD).length = es.length := by simp
 have i7' : (fI a (runFS width liked head es)).P s7.heap := by
  have : es.take (es.map entD).length = es := by rw [hlenm];exact List.take_length
  rw [this] at i7;exact i7
 have X7 : hb.StaysIn s7.heap := fun b o eb => e7.keep b o (fun q => by
  have := gA.wh b (by simpa using q)
  rw [this] at eb;cases eb) (S6.stays.1 b o eb)
 have K7 : (hd.heap_1 w.params).In s7.heap := fun b o eb => X7 b o (g.X b o eb)
 obtain ⟨dat,hcd,J⟩ := fI_for _ i7'
 obtain ⟨es7,k7,J,_,hl7⟩ := J.inst hcd
 have h7 := (hl7 (ofString "_str")).1 rfl
 refine method_fn (f := 42) K7 J (plainGet_of (show plainGet (hd.heap_1 w.params) 94 (ofString "_str") = true by k_is)).1 (plainGet_of (show plainGet (hd.heap_1 w.params) 94 (ofString "_str") = true by k_is)).2 (by k_is) (by k_is) (by show (lookIn _ (dictOf es7 k7)).map _ = _;rw [lookIn_dict,h7];rfl) ?_
 refine callWith_K (K := hd.heap_1 w.params) (h₀ := hb) g.X (by k_is) (spliced_more ?_)
 show wpAny _ _ (mkText (ofString "\n")) _ _ s7
 refine wpAny_mkText (spliced_none ⟨K7,?_⟩)
 have gn := hgood es.length (Nat.le_refl _)
 rw [List.take_length] at gn
 have hag : (runFS width liked head es).again = runFS width liked head es := again_eq (gn.ne hes)
 have hink := gn.ink hes
 have sp := spec_strsep (σ := runFS width liked head es) gA ha (gn.fits (by omega)) (Nat.le_trans gn.nl (by omega)) (Nat.le_trans gn.np (by omega)) (ofString "\n") (by decide) gn.top (by rw [hag];exact hink.1) (by rw [hag];exact hink.2) (newl_lens h0 h1 hx hes2)
 have e8 : Ext [] s7 { s7 with toks := s7.toks + 1 } := Ext.tok _ _ _
 have hsz7 : hb.objs.size ≤ s7.heap.objs.size := by
  obtain ⟨oL,eoL⟩ := S6.loc.live env.locals (List.mem_cons_self ..)
  have hL := Nat.le_of_lt (Heap.lt_size (e7.keep _ _ (fun q => gone q rfl) eoL))
  obtain ⟨m,F,_⟩ := S6.loc.fr
  exact Nat.le_trans F.above hL
 refine fin (sp A { s7 with toks := s7.toks + 1 } [.ref a.F,.str (ofString "\n") s7.toks] (ok.room.le (by omega)) X7 hsz7 w7 i7' (by unfold Rels;exact ⟨_,_,rfl,mval,by unfold Rels;exact ⟨_,_,rfl,mstr,by unfold Rels;rfl⟩⟩)) fun rv s9 q9 => ?_
 obtain ⟨e9,r9,w9,i9⟩ := q9
 have eAll : Ext lawW s s9 := by
  have a1 : Ext [] s s5 := ((((q1.1.trans q2.1).trans q3.1).trans q4.1).trans q5.1)
  refine ⟨fun b o nb eb => ?_,e9.os.trans (e8.os.trans (e7.os.trans (e6.os.trans a1.os))),fun z => e9.gens (e8.gens (e7.gens (e6.gens (a1.gens z))))⟩
  have eb5 := a1.all b o eb
  have nf : b ∉ fW a := fun q => by
   rcases List.mem_append.mp (show b ∈ [a.F,a.dF,a.L,a.A,a.dA] ++ [140,147] from q) with z | z
   ·rw [hfr b z] at eb5;cases eb5
   ·exact nb (List.mem_cons_of_mem _ z)
  exact e9.keep b o nf (e7.keep b o (by simpa using nf) (e6.all b o eb5))
 obtain ⟨ps184,h184⟩ := S5.asr.1
 have n184 : 184 ∉ fW a := fun q => by
  rcases List.mem_append.mp (show 184 ∈ [a.F,a.dF,a.L,a.A,a.dA] ++ [140,147] from q) with z | z
  ·rw [hfr 184 z] at h184;cases h184
  ·revert z;decide
 have h184' := e9.keep _ _ n184 (e7.keep _ _ (by simpa using n184) (e6.all _ _ h184))
 exact ⟨eAll,r9.flat rfl,S.upd ok eAll (fun b q => q) (fun b q => by
  simp only [List.mem_cons,List.not_mem_nil,or_false] at q
  rcases q with rfl | rfl | rfl
  ·exact ⟨_,h184'⟩
  ·exact w9 140 (by simp)
  ·exact w9 147 (by simp)) ⟨⟨ps184,h184'⟩,i9.2.2.2.1,i9.2.2.2.2⟩⟩
end
section
set_option maxHeartbeats 1000000
section
variable {c : Cx} {I I' : Asr c.W} {ρ : List (Str × D)} {n : Nat}
theorem strs_rels {W : List Addr} {h : Heap} : ∀ {l : List (Str × Tok)} {xs : List Str},l.map (·.1) = xs -> Rels W h (xs.map .str) (strValues l)
 | [],_,e => by subst e;unfold List.map Rels;rfl
 | (x,t) :: r,_,e => by
  subst e
  show Rels W h (.str x :: _) (.str x t :: strValues r)
  unfold Rels
  exact ⟨_,_,rfl,mstr,strs_rels rfl⟩
theorem JE.split {o : Expr} {apos pos : Pos} {x : Str} (ok : c.Ok n) (h : JE c I ρ o (.str x)) (hx : x.length ≤ 100000) (hno : ∀ h D vs,I.P h -> D ∈ c.W -> ¬ h.IsList D vs)
  (he : ∃ pl,eval (.Call (.Attribute o (ofString "split") apos) [] [] pos) c.env = (do
   let ov ← eval o c.env
   standAt apos.atName
   let (f,first) ← holding [ov] (getMethod ov (ofString "split") pl)
   callWith pos f first (backTo pos (starEach [] c.env)) []) := by exact ⟨_,rfl⟩) : JE c I ρ (.Call (.Attribute o (ofString "split") apos) [] [] pos) (.lst ((Txt.words x).map .str)) := fun s S => by
 obtain ⟨pl,he⟩ := he
 refine MethodCall_ (pl := pl) (fin (h s S) fun ov s1 q => ?_) he
 obtain ⟨t,rfl⟩ := rstr q.2
 have S1 := S.ext q.1
 refine GM.split (callWith_method0 (SCH.split0 (P := fun h' => ∀ b o,s1.heap.get? b = some o -> h'.get? b = some o) (fun h ob hk b o e => Heap.get?_push_of_some _ (hk b o e)) (fun _ _ e => e) (fun D l h' k hl hk hD => ?_) (by rw [sizeLine_eq];omega) ?_))
 ·have e1 : Ext [] s1 { s1 with heap := h',toks := k } := ⟨fun b o _ e => hk b o e,rfl,fun z => z⟩
  refine ⟨q.1.trans e1,?_⟩
  unfold Rel
  exact ⟨D,strValues l,rfl,fun q2 => hno _ D _ (S1.ext e1).asr q2 hD,hD,strs_rels hl⟩
 ·have := StrLaws.sw_weight x
  have h2 := StrLaws.len_le_wsum (Builtin.Str.spaceWords x (x.length + 1))
  rw [sizeLine_eq];omega
theorem JE.sliceS {v a : Expr} {p pos : Pos} {x : Str} {i : Int} (ok : c.Ok n) (h : JE c I ρ v (.str x)) (ha : JE c I ρ a (.int i)) (hx : x.length ≤ 100000)
  (hs : ∀ o k,subscripted (.Slice (some a) none none p) false o k = operate [k,o] (getItem o k) := by intro _ _;with_unfolding_all rfl) :
  JE c I ρ (.Subscript v (.Slice (some a) none none p) pos) (.str (Txt.slice x (some i) none)) := fun s S => by
 refine Subscript_ (fin (h s S) fun y s1 q => ?_)
 have S1 := S.ext q.1
 refine wpAny_Slice (fin (ha s1 S1) fun y s2 q2 => wpAny_pure (wpAny_pure ?_))
 obtain ⟨t,rfl⟩ := rstr q.2
 obtain ⟨u,rfl⟩ := rint q2.2
 have e3 : Ext [] s2 { s2 with heap := s2.heap.push { cls := .type "slice",data := .fields #[.int i u,.none,.none] } } := Ext.push
 refine tail_any (typeIs_str _ _ _) F.slot_str_getitem.lookup (wpAny_getItem_str_slice (l := some (i,u)) (u := none) (st := none) ⟨_,Heap.get?_push_size _ rfl,rfl,rfl⟩ rfl (post_val_or_str ⟨Nat.le_trans (Txt.slice_le x _ _) (by rw [sizeLine_eq];omega),fun t' k => ⟨((q.1.trans q2.1).trans e3).trans (Ext.tok _ _ _),mstr⟩⟩)) (hs _ _)
end
end
section
set_option maxHeartbeats 2000000
theorem Spec.toX {w : World} {hb : Heap} {m : Nat} {f : Addr} {ds : List D} {d : D} (g : Gr w hb) (sp : Spec m f ds d) : SpecX w hb [] [] m f (Asr.top []) ds d (Asr.top []) := fun A s vs room hst hsz hW hI hR =>
 fin (sp w hb [] A s vs g room hst hsz ⟨hW,fun b q => nomatch q⟩ hR) fun v s' q => ⟨q.1,q.2,(fun b z => nomatch z),trivial⟩
theorem signs_getL {x : Str} {i : Nat} {d : D} (h : (signs x)[i]? = some d) : ∃ k,(ls x)[i]? = some k ∧ d = .str ⟨#[k]⟩ := by
 unfold signs at h
 rw [List.getElem?_map] at h
 obtain ⟨k,h1,h2⟩ := Option.map_eq_some_iff.mp h
 exact ⟨k,h1,h2.symm⟩
noncomputable def readTo (x : Str) : Nat -> Int
 | 0 => 0
 | i + 1 => readTo x i + rightV i ⟨#[((ls x)[i]?).getD 0]⟩ + rightW i ⟨#[((ls x)[i]?).getD 0]⟩
theorem je_read {c : Cx} {I : Asr c.W} {ρ : List (Str × D)} {n : Nat} {x : Str} {wd : Str} {p1 p2 p3 p4 p5 p6 p7 p8 p9 pa : Pos} {k1 k2 : Nat} (ok : c.Ok n) (hn : 5 ≤ n) (hw : ρ.lookup wd = some (.str x)) (hdb : (wd == ("__debug__" : Str)) = false) (hx : x.length ≤ 100000) (hx9 : (Txt.slice x (some 1) none).length ≤ 9)
  (hr : c.env.kindOf (ofString "reduce") = some .globalImplicit) (hl : c.env.kindOf (ofString "_law_right") = some .globalImplicit) (hen : c.env.kindOf (ofString "enumerate") = some .globalImplicit) :
  JE c I ρ (.Call (.Name (ofString "reduce") p1) [.Name (ofString "_law_right") p2,.Call (.Name (ofString "enumerate") p3) [.Subscript (.Name wd p4) (.Slice (some (.Constant (.int 1) k1 p5)) none none p6) p7] [] p8,.Constant (.int 0) k2 p9] [] pa) (.int (readTo (Txt.slice x (some 1) none) (Txt.slice x (some 1) none).length)) := fun s S => by
 refine Call_ (fin (JE.glob (v := .ref 198) ok (by k_is) hr (by decide) s S) fun u s1 q1 => ?_)
 rw [rval q1.2]
 have S1 := S.ext q1.1
 refine callWith_K (K := hd.heap_1 c.w.params) (h₀ := c.hb) ok.gr.X (by k_is) (spliced_more (fin (JE.glob (v := .ref 292) ok (by k_is) hl (by decide) s1 S1) fun v2 s2 q2 => spliced_more ?_))
 rw [rval q2.2]
 have S2 := S1.ext q2.1
 refine Call_bltn ok (JE.bltn ok (by k_is) boot_enumerate (by decide) hen) (.inl ⟨_,rfl⟩) (JEs.cons (JE.sliceS ok (JE.var ok hw hdb) JE.cint hx) JEs.nil rfl) S2 (fun vs s3 e3 r => ?_)
 have S3 := S2.ext e3
 refine rels1 r ?_;clear r;intro v r1
 obtain ⟨t,rfl⟩ := rstr r1
 generalize hy : Txt.slice x (some 1) none = y at *
 refine call_enumerate_str fun h' he' hit hz hk => ?_
 have e4 : Ext [] s3 { s3 with heap := h' } := ⟨fun b o _ e => hk b o e,rfl,fun z => z⟩
 have S4 := S3.ext e4
 have n1 : s3.heap.get? (s3.heap.objs.size + 1) = none := Heap.get?_none_of_le (Nat.le_succ _)
 have n2 : s3.heap.get? s3.heap.objs.size = none := Heap.get?_none_of_le (Nat.le_refl _)
 have e5 : Ext [] ({ s3 with heap := h' } : Shared) { s3 with heap := h',toks := s3.toks + 1 } := Ext.tok _ _ _
 have S5 := S4.ext e5
 refine spliced_more (wpAny_Constant_int (spliced_none ⟨S5.kin ok,?_⟩))
 have hst0 : EnumSt [] h' (s3.heap.objs.size + 1) s3.heap.objs.size 0 := ⟨_,_,_,he',.inl rfl⟩
 have hfp : ∀ b ∈ [s3.heap.objs.size + 1,s3.heap.objs.size],b ∉ ([] : List Addr) ∧ c.hb.get? b = none ∧ ∃ o,h'.get? b = some o := by
  intro b q
  refine ⟨(fun z => nomatch z),?_,?_⟩
  ·rcases List.mem_cons.mp q with rfl | q
   ·exact fresh_hb S3.stays.1 n1
   ·rw [List.mem_singleton.mp q];exact fresh_hb S3.stays.1 n2
  ·rcases List.mem_cons.mp q with rfl | q
   ·exact ⟨_,he'⟩
   ·rw [List.mem_singleton.mp q]
    obtain ⟨o,eo,_⟩ := hit
    exact ⟨o,eo⟩
 have hitr : ∀ (A' : Around) s1,A'.handled = none -> Ext [] ({ s3 with heap := h',toks := s3.toks + 1 } : Shared) s1 -> wpAny (model PR c.w) A' (call (.builtin "iter") [.ref (s3.heap.objs.size + 1)]) (fun itv s3' => Ext [] s1 s3' ∧ ∃ fp T,(∀ A : Around,A.handled = none -> IterAt c.w A [] itv (enumL (signs y)) fp T) ∧ T 0 s3'.heap ∧ ∀ b ∈ fp,b ∈ [s3.heap.objs.size + 1,s3.heap.objs.size] ∨ s1.heap.get? b = none) NoE s1 := by
  intro A' s6 hA e6
  have he6 : IsEnum s6.heap (s3.heap.objs.size + 1) s3.heap.objs.size 0 .none := e6.all _ _ he'
  have hit6 : s6.heap.IsStrIter s3.heap.objs.size (strIterType y) y t 0 := by
   obtain ⟨o,eo,r⟩ := hit
   exact ⟨o,e6.all _ _ eo,r⟩
  refine call_function_entry (by decide +kernel) (by decide +kernel) kdk_entry_iter (kdk_args_iter _) ?_
  unfold Builtin.«iter»
  refine wpAny_bind (m := someArgs "iter" 1 2 _) (wpAny_of_eq (a := [Value.ref (s3.heap.objs.size + 1)]) (by first | rfl | kernel_rfl!) ?_)
  show wpAny _ _ (pyIter (.ref (s3.heap.objs.size + 1)) >>= _) _ _ _
  refine wpAny_bind (wpAny_pyIter_enum he6 (wpAny_pure ⟨_,rfl,Ext.refl _ _,[s3.heap.objs.size + 1,s3.heap.objs.size],_,fun A hA => IterAt.enum (fun A hA => DrawAt.str hA (strIter_T y)) hA (Nat.succ_ne_self _),⟨⟨_,_,_,he6,.inl rfl⟩,hit6⟩,fun b hb => .inl hb⟩))
 have hsteps : ∀ i d,(enumL (signs y))[i]? = some d -> SpecX c.w c.hb [] [] 1 292 (Asr.top []) [.int (readTo y i),d] (.int (readTo y (i + 1))) (Asr.top []) := by
  intro i d hd
  obtain ⟨d0,h1,rfl⟩ := enumL_get hd
  obtain ⟨k,h2,rfl⟩ := signs_getL h1
  have hi : i < (ls y).length := (List.getElem?_eq_some_iff.mp h2).1
  rw [ls_len] at hi
  have sp := Spec.toX (w := c.w) (hb := c.hb) ok.gr (spec_right (readTo y i) i ⟨#[k]⟩ (by omega))
  have e : readTo y (i + 1) = readTo y i + rightV i ⟨#[k]⟩ + rightW i ⟨#[k]⟩ := by
   show readTo y i + _ + _ = _
   rw [h2];rfl
  rw [e];exact sp
 have red := reduce_go (w := c.w) (hb := c.hb) (W := []) (U := []) (A := c.A) (s := { s3 with heap := h',toks := s3.toks + 1 }) (m := 1) (f := 292) (sv := .ref (s3.heap.objs.size + 1)) (v0 := .int 0 s3.toks) ⟨ok.gr,(fun b q => nomatch q),fun b q => nomatch q⟩ (ok.room.le (by omega)) S5.stays.1 S5.stays.2 (fun b q => nomatch q)
  (fun _ => Asr.top []) trivial (fun i => .int (readTo y i)) (enumL (signs y)) [s3.heap.objs.size + 1,s3.heap.objs.size] (by k_is) hsteps mint (.inl ⟨_,rfl⟩) hfp hitr
 refine fin red fun rv s7 q7 => ?_
 obtain ⟨e7,r7,_,_⟩ := q7
 have hlen : (enumL (signs y)).length = y.length := by rw [enumL_len];unfold signs;rw [List.length_map];exact ls_len y
 rw [hlen] at r7
 refine ⟨⟨fun b o _ eb => ?_,e7.os.trans (e5.os.trans (e4.os.trans (e3.os.trans (q2.1.os.trans q1.1.os)))),fun z => e7.gens (e5.gens (e4.gens (e3.gens (q2.1.gens (q1.1.gens z)))))⟩,r7.flat rfl⟩
 have eb3 := e3.all b o (q2.1.all b o (q1.1.all b o eb))
 refine e7.keep b o (fun q => ?_) (hk b o eb3)
 rcases List.mem_cons.mp (show b ∈ [s3.heap.objs.size + 1,s3.heap.objs.size] from q) with rfl | q
 ·rw [n1] at eb3;cases eb3
 ·rw [List.mem_singleton.mp q,n2] at eb3;cases eb3
end
noncomputable def lineOf (ws : List Str) (low high : Nat) (bare : Int) : Str :=
 (if ((low : Int) == 0) && ((bare == 1) && true) then ofString "" else ofString " ") ++ Txt.join (ofString " ") ((ws.drop low).take (high - low))
theorem sum_part (ws : List Str) (a b : Nat) (hl : ∀ x ∈ ws,x.length ≤ 10) (hn : ws.length ≤ 100) : ((((ws.drop a).take b)).map (·.length)).sum + ((ws.drop a).take b).length ≤ 1100 := by
 have h1 := strs_sum_le (ys := (ws.drop a).take b) (B := 10) fun y hy => hl y (List.mem_of_mem_drop (List.mem_of_mem_take hy))
 have h2 : ((ws.drop a).take b).length ≤ 100 := by rw [List.length_take,List.length_drop];exact Nat.le_trans (Nat.min_le_right _ _) (Nat.le_trans (Nat.sub_le _ _) hn)
 omega
theorem spec_line (ws : List Str) (low high : Nat) (bare : Int) (hl : ∀ x ∈ ws,x.length ≤ 10) (hn : ws.length ≤ 100) (h1 : low ≤ high) (h2 : high ≤ ws.length) (hj : ∀ ys : List Str,(Txt.join (ofString " ") ys).length ≤ (ys.map (·.length)).sum + ys.length) :
  Spec 1 266 [.lst (ws.map .str),.int low,.int high,.int bare] (.str (lineOf ws low high bare)) := fun w hb W A s vs g room hst hsz hW hR => by
 refine rels4 hR ?_;clear hR;intro v1 v2 v3 v4 r1 r2 r3 r4
 refine' spec_enter (ρ := [(ofString "bare",.int bare),(ofString "high",.int high),(ofString "low",.int low),(ofString "words",.lst (ws.map .str))])
  (binds := [(ofString "words",v1),(ofString "low",v2),(ofString "high",v3),(ofString "bare",v4)]) g room hst hsz hW ?ho ?hcd ?hbind ⟨rfl,r4,rfl,r3,rfl,r2,rfl,r1,trivial⟩ ?hkind ?hnd ?h ?hco ?hgen ?hk
 case ho => k_is
 case hcd => k_is
 case hbind => rfl
 case hkind => rfl
 case hnd => decide
 case hco => rfl
 case hgen => rfl
 case hk => rfl
 intro c s0 L hE hU ok
 have hs := sum_part ws low (high - low) hl hn
 refine' JS.ret ?h1 ?h2
 case h2 => exact fun v s S r => RQ.ret S r
 case h1 =>
  refine' JE.bin ok ?a1 ?a2 (BinR.cat ?a3)
  case a1 =>
   refine' JE.strify ?t1 ?t2 ?t3
   case t1 =>
    refine' JT.and ?b1 ?b2
    case b1 => exact JT.cmp ok (JE.var ok rfl) JE.cint BinR.eq
    case b2 =>
     intro _
     refine' JT.and ?c1 ?c2
     case c1 => exact JT.cmp ok (JE.var ok rfl) JE.cint BinR.eq
     case c2 => intro _;exact JT.andnil
   case t2 => intro _;exact JE.cstr
   case t3 => intro _;exact JE.cstr
  case a2 =>
   refine' JE.join ok ?b1 ?b2 (by decide) (Nat.le_trans hs (by decide))
   case b1 => exact JE.cstr
   case b2 =>
    refine' JE.conv (JE.slice (i := low) (j := high) ok ?d1 ?d2 ?d3 h1 ?d4 ?d5) ?d6
    case d1 => exact JE.var ok rfl
    case d2 => exact JE.var ok rfl
    case d3 => exact JE.var ok rfl
    case d4 => simp;omega
    case d5 => simp;omega
    case d6 => rw [List.map_take,List.map_drop]
  case a3 =>
   have := hj ((ws.drop low).take (high - low))
   split <;> (have e : (ofString "").length = 0 := rfl) <;> (have e2 : (ofString " ").length = 1 := rfl) <;> omega
theorem CapOk.nil {c : Cx} {scope : Scope} {cl : List (Str × Addr)} {ρ : List (Str × D)} : CapOk c scope cl [] ρ := fun _ _ e => by cases e
theorem CapOk.cons {c : Cx} {scope : Scope} {cl : List (Str × Addr)} {ρ ρ2 : List (Str × D)} {x : Str} {d : D} (h1 : ρ.lookup x = some d) (h2 : cl.lookup x = c.env.cells.lookup x) (h3 : c.env.kindOf x = some .cell) (h4 : scope.names.lookup x = some .free) (k : CapOk c scope cl ρ2 ρ) :
  CapOk c scope cl ((x,d) :: ρ2) ρ := fun y e h => by
 rw [List.lookup_cons] at h
 cases q : y == x with
 | true => rw [q] at h;cases h;rw [beq_iff_eq.mp q];exact ⟨h1,h2,h3,h4⟩
 | false => rw [q] at h;exact k y e h
noncomputable def sgn (liked : Str) (j : Nat) : Str := ⟨#[(liked.cps.toList[j]?).getD 0]⟩
theorem signs_get {liked : Str} {j : Nat} {d : D} (h : (signs liked)[j]? = some d) : d = .str (sgn liked j) := by
 unfold signs at h
 rw [List.getElem?_map] at h
 cases q : liked.cps.toList[j]? with
 | none => rw [q] at h;cases h
 | some k => rw [q] at h;unfold sgn;rw [q];simpa using h.symm
noncomputable def wordAt (ws : List Str) (i : Nat) : Str := (ws[i]?).getD (ofString "")
noncomputable def wishB (ws : List Str) (liked : Str) (i j : Nat) : Bool := (sgn liked j == ofString " ") || ((Txt.item (wordAt ws i) 9 == sgn liked j) || false)
noncomputable def wishIn (ws : List Str) (liked : Str) (start i j : Nat) : List (Int × Int) := if wishB ws liked (start + i) j then [((j : Int),-((start : Int) + 1 + (i : Int) * 1))] else []
noncomputable def wishes (ws : List Str) (liked : Str) (start newest : Nat) : List (Int × Int) := (List.range (newest - start)).flatMap fun i => (List.range liked.cps.size).flatMap fun j => wishIn ws liked start i j
theorem wishes_map (ws : List Str) (liked : Str) (start newest : Nat) : ((List.range (rangeL ((start : Int) + 1) 1 (newest - start)).length).flatMap fun i => (List.range (enumL (signs liked)).length).flatMap fun j => (wishIn ws liked start i j).map pairD) = (wishes ws liked start newest).map pairD := by
 unfold wishes
 rw [rangeL_len,enumL_len]
 simp only [List.map_flatMap,signs,List.length_map,Array.length_toList]
theorem wishes_mem {ws : List Str} {liked : Str} {start newest : Nat} {p : Int × Int} (h : p ∈ wishes ws liked start newest) : ∃ i,i < newest - start ∧ p.2 = -((start : Int) + 1 + i) := by
 unfold wishes at h
 obtain ⟨i,hi,h⟩ := List.mem_flatMap.mp h
 obtain ⟨j,hj,h⟩ := List.mem_flatMap.mp h
 unfold wishIn at h
 split at h
 ·rw [List.mem_singleton.mp h]
  exact ⟨i,List.mem_range.mp hi,by simp⟩
 ·cases h
theorem pMin_mem (p : Int × Int) : ∀ (r : List (Int × Int)),pMin p r ∈ p :: r := by
 intro r
 induction r generalizing p with
 | nil => simp [pMin]
 | cons x r ih =>
  have e : pMin p (x :: r) = pMin (if pLt x p then x else p) r := rfl
  rw [e]
  have := ih (if pLt x p then x else p)
  rcases List.mem_cons.mp this with q | q
  ·rw [q];split <;> simp
  ·exact List.mem_cons_of_mem _ (List.mem_cons_of_mem _ q)
theorem wishes_len {ws : List Str} {liked : Str} {start newest : Nat} (h1 : newest - start ≤ 100) (h2 : liked.cps.size ≤ 10) : ((wishes ws liked start newest).map pairD).length ≤ 100000 := by
 have key : ∀ {f : Nat -> List (Int × Int)} {n B : Nat},(∀ i,(f i).length ≤ B) -> ((List.range n).flatMap f).length ≤ n * B := by
  intro f n B hf
  induction n with
  | zero => simp
  | succ n ih => rw [List.range_succ,List.flatMap_append,List.length_append,List.flatMap_cons,List.flatMap_nil,List.append_nil,Nat.add_mul,Nat.one_mul];have := hf n;omega
 have hin : ∀ i j,(wishIn ws liked start i j).length ≤ 1 := fun i j => by unfold wishIn;split <;> simp
 have h3 : ∀ i,((List.range liked.cps.size).flatMap fun j => wishIn ws liked start i j).length ≤ 10 := fun i => Nat.le_trans (key (hin i)) (by omega)
 have := key (n := newest - start) h3
 rw [List.length_map]
 unfold wishes
 omega
structure RS where
 rows : List Str
 start : Nat
 head : Int
 bare : Int
theorem neO : Nonempty RS := ⟨⟨[],0,0,0⟩⟩
noncomputable def filledOf (n : Nat) (σ : RS) : Int := σ.head + 11 * ((n : Int) - σ.start + 1) - (if ((σ.start : Int) == 0) then σ.bare else 0)
noncomputable def rowsTurn (ws : List Str) (liked : Str) (width : Int) (σ : RS) (n : Nat) : RS :=
 if width < filledOf n σ then
  match wishes ws liked σ.start n with
  | p :: r => ⟨σ.rows ++ [lineOf ws σ.start (-(pMin p r).2).toNat σ.bare],(-(pMin p r).2).toNat,0,σ.bare⟩
  | [] => if 0 < σ.head then ⟨σ.rows ++ [if 0 < n then lineOf ws 0 n σ.bare else ofString ""],n,0,0⟩ else σ
 else σ
noncomputable def rowsSt (ws : List Str) (head width : Int) (liked : Str) (bare : Int) (n : Nat) : RS := (List.range n).foldl (rowsTurn ws liked width) ⟨[],0,head,bare⟩
noncomputable def rowsOf (ws : List Str) (head width : Int) (liked : Str) (bare : Int) : List Str :=
 (rowsSt ws head width liked bare ws.length).rows ++ [lineOf ws (rowsSt ws head width liked bare ws.length).start ws.length (rowsSt ws head width liked bare ws.length).bare]
theorem rowsSt_succ (ws : List Str) (head width : Int) (liked : Str) (bare : Int) (n : Nat) : rowsSt ws head width liked bare (n + 1) = rowsTurn ws liked width (rowsSt ws head width liked bare n) n := by
 unfold rowsSt;rw [List.range_succ,List.foldl_append];rfl
set_option tactic.hygienic true in
theorem rowsTurn_start {ws : List Str} {liked : Str} {width : Int} {σ : RS} {n : Nat} (h : σ.start ≤ n) : (rowsTurn ws liked width σ n).start ≤ n := by
 unfold rowsTurn
 split
 ·split
  ·rename_i p r e
   obtain ⟨i,hi,hp⟩ := wishes_mem (e ▸ pMin_mem p r)
   show (-(pMin p r).2).toNat ≤ n
   rw [hp,Int.neg_neg]
   show σ.start + 1 + i ≤ n
   rw [Nat.add_right_comm];exact Nat.add_lt_of_lt_sub' hi
  ·split
   ·exact Nat.le_refl _
   ·exact h
 ·exact h
theorem rowsSt_start (ws : List Str) (head width : Int) (liked : Str) (bare : Int) : ∀ n,(rowsSt ws head width liked bare n).start ≤ n
 | 0 => Nat.le_refl _
 | n + 1 => by rw [rowsSt_succ];exact Nat.le_succ_of_le (rowsTurn_start (rowsSt_start ws head width liked bare n))
theorem rowsTurn_len {ws : List Str} {liked : Str} {width : Int} {σ : RS} {n : Nat} : (rowsTurn ws liked width σ n).rows.length ≤ σ.rows.length + 1 := by
 unfold rowsTurn
 split
 ·split
  ·simp
  ·split <;> simp
 ·simp
theorem rowsSt_len (ws : List Str) (head width : Int) (liked : Str) (bare : Int) : ∀ n,(rowsSt ws head width liked bare n).rows.length ≤ n
 | 0 => Nat.le_refl _
 | n + 1 => by rw [rowsSt_succ];have := rowsTurn_len (ws := ws) (liked := liked) (width := width) (σ := rowsSt ws head width liked bare n) (n := n);have := rowsSt_len ws head width liked bare n;omega
theorem BinR.mul11 {b : Int} : BinR (binaryOp .Mult) (.int 11) (.int b) (.int (11 * b)) := BinR.mul (.of_left (by decide +kernel))
theorem JE.intify7 {c : Cx} {I : Asr c.W} {ρ : List (Str × D)} {t a b : Expr} {pos : Pos} {q : Bool} {x1 x2 : Int} (h1 : JT c I ρ t q) (h2 : q = true -> JE c I ρ a (.int x1)) (h3 : q = false -> JE c I ρ b (.int x2)) : JE c I ρ (.IfExp t a b pos) (.int (if q then x1 else x2)) :=
 JE.ifx h1 (fun e => by subst e;exact h2 rfl) (fun e => by subst e;exact h3 rfl)
theorem comp_env {c : Cx} {E : Env} {d0 C : Addr} {scope : Scope} {cl : List (Str × Addr)} (h : c.env = E) : (c.comp d0 C scope cl).env = compEnvC scope cl C E := by show compEnvC scope cl C c.env = _;rw [h]
theorem QN.nil7 {c : Cx} {Q : Flow -> Shared -> Prop} {s : Shared} (h : Q .next s) : QN c [] Q .next s := wpAny_execs_nil h
theorem rows_snoc (l : List Str) (x : Str) : l.map D.str ++ [.str x] = (l ++ [x]).map D.str := by simp
noncomputable def rsD (a : Addr) (ws : List Str) (width : Int) (liked : Str) (σ : RS) : List (Str × D) :=
 [(ofString "start",.int σ.start),(ofString "rows",.val (.ref a)),(ofString "bare",.int σ.bare),(ofString "liked",.str liked),(ofString "width",.int width),(ofString "head",.int σ.head),(ofString "words",.lst (ws.map .str))]
set_option maxHeartbeats 2000000 in
theorem spec_rows (ws : List Str) (head width : Int) (liked : Str) (bare : Int) (hl : ∀ x ∈ ws,x.length = 10) (hn : ws.length ≤ 100) (h2 : liked.cps.size ≤ 10) (hj : ∀ ys : List Str,(Txt.join (ofString " ") ys).length ≤ (ys.map (·.length)).sum + ys.length) :
  Spec 3 271 [.lst (ws.map .str),.int head,.int width,.str liked,.int bare] (.lst ((rowsOf ws head width liked bare).map .str)) := fun w hb W A s vs g room hst hsz hW hR => by
 refine rels5 hR ?_;clear hR;intro v1 v2 v3 v4 v5 r1 r2 r3 r4 r5
 refine' spec_enter (ρ := [(ofString "bare",.int bare),(ofString "liked",.str liked),(ofString "width",.int width),(ofString "head",.int head),(ofString "words",.lst (ws.map .str))])
  (binds := [(ofString "words",v1),(ofString "head",v2),(ofString "width",v3),(ofString "liked",v4),(ofString "bare",v5)]) g room hst hsz hW ?ho ?hcd ?hbind ⟨rfl,r5,rfl,r4,rfl,r3,rfl,r2,rfl,r1,trivial⟩ ?hkind ?hnd ?h ?hco ?hgen ?hk
 case ho => k_is
 case hcd => k_is
 case hbind => rfl
 case hkind => rfl
 case hnd => decide
 case hco => rfl
 case hgen => rfl
 case hk => rfl
 intro c s0 L hE hU ok
 have hl' : ∀ x ∈ ws,x.length ≤ 10 := fun x hx => Nat.le_of_eq (hl x hx)
 refine' JS.newlist ok ?k ?hk
 case hk => exact kl hE rfl
 case k =>
 intro a s1 hnn hWW x hbn
 have ok' := ok.own hbn
 have hE' : (c.own a).env = envOfC _ _ _ _ _ := hE
 clear hU hE ok
 refine' JS.assign ok' (d := .int (0 : Nat)) ?g1 ?g2 ?g3
 case g1 => exact JE.cint
 case g3 => exact kl hE' rfl
 case g2 =>
 refine' JS.forr ok' (ds := rangeL 0 1 ws.length) ?it (fun i => Asr.list a (List.mem_cons_self ..) ((rowsSt ws head width liked bare i).rows.map .str)) rfl (fun i => rsD a ws width liked (rowsSt ws head width liked bare i))
  ?h0 (Sto (c.own a) (Asr.list a (List.mem_cons_self ..) ((rowsSt ws head width liked bare ws.length).rows.map .str)) s1 (rsD a ws width liked (rowsSt ws head width liked bare ws.length))) ?turn ?els ?kk
 case it =>
  refine' JI.range1 (i := ws.length) ok' ?e1 ?e2 (by simp) (by omega) (by omega)
  case e1 => exact JE.bltn ok' (by k_is) boot_range (by decide) (kd hE' rfl)
  case e2 =>
   refine' JE.conv (JE.len (ds := ws.map .str) ok' ?f1 ?f2 ?f3) ?f4
   case f1 => exact JE.bltn ok' (by k_is) boot_len (by decide) (kd hE' rfl)
   case f2 => exact JE.var ok' rfl
   case f3 => simp;omega
   case f4 => simp
 case h0 => unfold rsD;exact Sub.cons rfl (Sub.cons rfl (Sub.cons rfl (Sub.cons rfl (Sub.cons rfl (Sub.cons rfl (Sub.cons rfl Sub.nil))))))
 case els => rw [rangeL_len];exact JP.nil fun s S => S
 case kk =>
  have hst := rowsSt_start ws head width liked bare ws.length
  have hz := rowsSt_len ws head width liked bare ws.length
  unfold rowsOf
  generalize rowsSt ws head width liked bare ws.length = σ at hst hz
  unfold rsD
  refine' JS.xex (XE.append (d := .str (lineOf ws σ.start ws.length σ.bare)) ok' (List.mem_cons_self ..) ?u1 ?u2 ?u3) ?u4 ok'
  case u1 => exact JE.var ok' rfl
  case u2 =>
   refine' JE.call ok' ?hm ?hf ?hk ?ha (spec_line ws σ.start ws.length σ.bare hl' hn hst (Nat.le_refl _) hj)
   case hm => decide
   case hf => exact JE.glob ok' (by k_is) (kd hE' rfl)
   case hk => k_is
   case ha =>
    refine' JEs.cons (JE.var ok' rfl) (JEs.cons (JE.var ok' rfl) (JEs.cons ?len (JEs.cons (JE.var ok' rfl) JEs.nil rfl) rfl) rfl) rfl
    case len =>
     refine' JE.conv (JE.len (ds := ws.map .str) ok' ?f1 ?f2 ?f3) ?f4
     case f1 => exact JE.bltn ok' (by k_is) boot_len (by decide) (kd hE' rfl)
     case f2 => exact JE.var ok' rfl
     case f3 => simp;omega
     case f4 => simp
  case u3 => simp;omega
  case u4 =>
   rw [rows_snoc]
   refine' JS.ret ?r1 ?r2
   case r1 => exact JE.var ok' rfl
   case r2 => exact fun v s S r => by rw [rval r];exact RQ.retList hnn hWW x S
 case turn =>
 intro i d hd
 obtain ⟨hi,hd⟩ := rangeL_get hd
 have hd0 : d = .int (i : Int) := by rw [hd];simp
 subst hd0
 clear hd
 refine ⟨_,JA.name ok' (kl hE' rfl),fun s2 e2 => ?_⟩
 rw [rowsSt_succ]
 have hst := rowsSt_start ws head width liked bare i
 have hz := rowsSt_len ws head width liked bare i
 generalize rowsSt ws head width liked bare i = σ at hst hz
 unfold rsD
 refine' JS.assign ok' (d := .int (filledOf i σ)) ?a1 ?a2 ?a3
 case a3 => exact kl hE' rfl
 case a1 =>
  refine' JE.bin ok' ?b1 ?b2 BinR.sub
  case b1 => exact JE.bin ok' (JE.var ok' rfl) (JE.bin ok' JE.cint (JE.bin ok' (JE.bin ok' (JE.var ok' rfl) (JE.var ok' rfl) BinR.sub) JE.cint BinR.add) BinR.mul11) BinR.add
  case b2 =>
   refine' JE.intify7 ?t1 ?t2 ?t3
   case t1 => exact JT.cmp ok' (JE.var ok' rfl) JE.cint BinR.eq
   case t2 => intro _;exact JE.var ok' rfl
   case t3 => intro _;exact JE.cint
 case a2 =>
 refine' JS.iff (q := decide (width < filledOf i σ)) ?c1 ?c2 ?c3
 case c1 => exact JT.cmp ok' (JE.var ok' rfl) (JE.var ok' rfl) BinR.gt
 case c3 =>
  intro hq
  have e : rowsTurn ws liked width σ i = σ := by unfold rowsTurn;rw [if_neg (of_decide_eq_false hq)]
  rw [e]
  exact JP.nil fun s S => QN.nil7 (S.weak (by exact Sub.cons rfl (Sub.cons rfl (Sub.cons rfl (Sub.cons rfl (Sub.cons rfl (Sub.cons rfl (Sub.cons rfl Sub.nil))))))))
 case c2 =>
 intro hq
 have hturn : rowsTurn ws liked width σ i = match wishes ws liked σ.start i with
   | p :: r => ⟨σ.rows ++ [lineOf ws σ.start (-(pMin p r).2).toNat σ.bare],(-(pMin p r).2).toNat,0,σ.bare⟩
   | [] => if 0 < σ.head then ⟨σ.rows ++ [if 0 < i then lineOf ws 0 i σ.bare else ofString ""],i,0,0⟩ else σ := by
  unfold rowsTurn;rw [if_pos (of_decide_eq_true hq)]
 have hwl : ((wishes ws liked σ.start i).map pairD).length ≤ 100000 := wishes_len (by omega) h2
 have hmem : ∀ p ∈ wishes ws liked σ.start i,∃ k,k < i - σ.start ∧ p.2 = -((σ.start : Int) + 1 + k) := fun p hp => wishes_mem hp
 refine' JS.compAssign (outs := (wishes ws liked σ.start i).map pairD) (ρ2 := [(ofString "liked",.str liked),(ofString "words",.lst (ws.map .str))]) ok' (JI.range2 (i := (σ.start : Int) + 1) (j := (i : Int) + 1) (k := i - σ.start) ok' ?d1 ?d2 ?d3 ?d4 ?d5 ?d6 ?d7 ?d8) ?co ?cap hwl ?body ?k ?hk ?hsw
 case d1 => exact JE.bltn ok' (by k_is) boot_range (by decide) (kd hE' rfl)
 case d2 => exact JE.bin ok' (JE.var ok' rfl) JE.cint BinR.add
 case d3 => exact JE.bin ok' (JE.var ok' rfl) JE.cint BinR.add
 case d4 => omega
 case d5 => omega
 case d6 => omega
 case d7 => omega
 case d8 => omega
 case co =>
  refine' ⟨?o1,?o2,?o3,?o4,?o5,?o6⟩
  case o1 => rw [hE'];rfl
  case o2 => rfl
  case o3 => decide
  case o4 => decide
  case o5 => rw [hE'];simp [envOfC,cellsFrom]
  case o6 => simp;decide
 case cap =>
  refine' CapOk.cons ?p1 ?p2 ?p3 ?p4 (CapOk.cons ?q1 ?q2 ?q3 ?q4 CapOk.nil)
  case p1 => exact rfl
  case p2 => rw [hE'];rfl
  case p3 => rw [hE'];rfl
  case p4 => rfl
  case q1 => exact rfl
  case q2 => rw [hE'];rfl
  case q3 => rw [hE'];rfl
  case q4 => rfl
 case hk => exact kl hE' rfl
 case hsw => rw [hE'];rfl
 case body =>
  intro d0 C ok2
  rw [← wishes_map]
  refine' CL.mk ok2 (List.mem_cons_self ..) rfl (fun i' => (List.range (enumL (signs liked)).length).flatMap fun j => (wishIn ws liked σ.start i' j).map pairD) ?tu
  case tu =>
  intro i' d hd
  obtain ⟨hi',rfl⟩ := rangeL_get hd
  refine ⟨_,true,JAl.name ok2 (kdE (comp_env hE') rfl),?sb,fun pre => JTs.nil,(fun h => by cases h),fun _ => Emit.more rfl (fun pre => JI.enumS (x := liked) ok2 ?ef ?el) (fun _ => rfl) (CL.mk ok2 (List.mem_cons_self ..) rfl (fun j => (wishIn ws liked σ.start i' j).map pairD) ?inner)⟩
  case sb => exact Sub.cons rfl (Sub.cons rfl Sub.nil)
  case ef => exact JE.bltn ok2 (by k_is) boot_enumerate (by decide) (kdE (comp_env hE') rfl)
  case el => exact JE.var ok2 rfl
  case inner =>
  intro j d hd
  obtain ⟨d1,hd1,rfl⟩ := enumL_get hd
  have hd2 := signs_get hd1
  subst hd2
  have hlen : σ.start + i' < ws.length := by omega
  refine ⟨_,wishB ws liked (σ.start + i') j,JAl.pair ok2 (kdE (comp_env hE') rfl) (kdE (comp_env hE') rfl),?sb2,fun pre => JTs.one ?jt,?no,?yes⟩
  case sb2 => exact Sub.cons rfl (Sub.cons rfl (Sub.cons rfl Sub.nil))
  case jt =>
   refine' JT.or ?j1 ?j2
   case j1 => exact JT.cmp ok2 (JE.var ok2 rfl) JE.cstr BinR.seq
   case j2 =>
    intro _
    refine' JT.or ?k1 ?k2
    case k2 => intro _;exact JT.ornil
    case k1 =>
     refine' JT.cmp ok2 (JE.sub ok2 (JE.sub ok2 ?m1 ?m2 (SubR.lst (d := .str (wordAt ws (σ.start + i'))) ?m3 ?m4 ?m5)) ?m6 (SubR.strN 10 ?m7 ?m8 ?m9)) ?m10 BinR.seq
     case m1 => exact JE.var ok2 rfl
     case m2 => exact JE.bin ok2 (JE.var ok2 rfl) JE.cint BinR.sub
     case m3 => omega
     case m4 =>
      have e : ((σ.start : Int) + 1 + (i' : Int) * 1 - 1).toNat = σ.start + i' := by omega
      rw [e,List.getElem?_map]
      unfold wordAt
      rw [List.getElem?_eq_getElem hlen]
      rfl
     case m5 => simp;omega
     case m6 => exact JE.cint
     case m7 =>
      unfold wordAt
      rw [List.getElem?_eq_getElem hlen]
      exact hl _ (List.getElem_mem ..)
     case m8 => decide
     case m9 => decide
     case m10 => exact JE.var ok2 rfl
  case no => intro hb;unfold wishIn;rw [hb];rfl
  case yes =>
   intro hb
   have e : (wishIn ws liked σ.start i' j).map pairD = [pairD ((j : Int),-((σ.start : Int) + 1 + (i' : Int) * 1))] := by unfold wishIn;rw [hb];rfl
   rw [e]
   refine Emit.elt rfl fun pre => ?_
   unfold pairD
   exact JE.tup (JEs.cons (JE.var ok2 rfl) (JEs.cons (JE.un ok2 (JE.var ok2 rfl) UnR.neg) JEs.nil))
 case k =>
 refine' JS.iff (q := !((wishes ws liked σ.start i).map pairD).isEmpty) ?l1 ?l2 ?l3
 case l1 => exact JT.plain ok' (JE.var ok' rfl) (TruR.lst (by omega))
 case l2 =>
  intro hne
  cases hw : wishes ws liked σ.start i with
  | nil => rw [hw] at hne;cases hne
  | cons p r =>
   rw [hw] at hturn hmem
   dsimp only at hturn
   obtain ⟨kk,hkk,hp2⟩ := hmem _ (pMin_mem p r)
   rw [hturn]
   have hch : (-(pMin p r).2) = (((-(pMin p r).2).toNat : Nat) : Int) := by omega
   have hch2 : (-(pMin p r).2).toNat ≤ i := by omega
   have hch3 : σ.start ≤ (-(pMin p r).2).toNat := by omega
   refine' JS.assign ok' (d := .int ((-(pMin p r).2).toNat : Nat)) ?n1 ?n2 ?n3
   case n3 => exact kl hE' rfl
   case n1 =>
    rw [← hch]
    refine' JE.un ok' (JE.sub ok' (JE.min ok' ?x1 ?x2) ?x3 (SubR.tup (j := 1) ?x4 ?x5 ?x6 ?x7 ?x8)) UnR.neg
    case x1 => exact JE.bltn ok' (by k_is) boot_min (by decide) (kd hE' rfl)
    case x2 => exact JE.var ok' rfl
    case x3 => exact JE.cint
    case x4 => exact rfl
    case x5 => exact rfl
    case x6 => decide
    case x7 => decide
    case x8 => intro _ _;with_unfolding_all rfl
   case n2 =>
   generalize (-(pMin p r).2).toNat = ch at hch2 hch3
   refine' JS.xex (XE.append (d := .str (lineOf ws σ.start ch σ.bare)) ok' (List.mem_cons_self ..) ?u1 ?u2 ?u3) ?u4 ok'
   case u1 => exact JE.var ok' rfl
   case u2 =>
    refine' JE.call ok' ?hm ?hf ?hk ?ha (spec_line ws σ.start ch σ.bare hl' hn hch3 (by omega) hj)
    case hm => decide
    case hf => exact JE.glob ok' (by k_is) (kd hE' rfl)
    case hk => k_is
    case ha => exact JEs.cons (JE.var ok' rfl) (JEs.cons (JE.var ok' rfl) (JEs.cons (JE.var ok' rfl) (JEs.cons (JE.var ok' rfl) JEs.nil)))
   case u3 => simp;omega
   case u4 =>
   rw [rows_snoc]
   refine' JS.assign ok' ?y1 ?y2 ?y3
   case y1 => exact JE.var ok' rfl
   case y3 => exact kl hE' rfl
   case y2 =>
   refine' JS.assign ok' ?z1 ?z2 ?z3
   case z1 => exact JE.cint
   case z3 => exact kl hE' rfl
   case z2 => exact JP.nil fun s S => QN.nil7 (QN.nil7 (S.weak (by exact Sub.cons rfl (Sub.cons rfl (Sub.cons rfl (Sub.cons rfl (Sub.cons rfl (Sub.cons rfl (Sub.cons rfl Sub.nil)))))))))
 case l3 =>
  intro hne
  have hw : wishes ws liked σ.start i = [] := by
   cases hw : wishes ws liked σ.start i with
   | nil => rfl
   | cons p r => rw [hw] at hne;cases hne
  rw [hw] at hturn
  dsimp only at hturn
  refine' JS.iff (q := decide (0 < σ.head)) ?n1 ?n2 ?n3
  case n1 => exact JT.cmp ok' (JE.var ok' rfl) JE.cint BinR.gt
  case n3 =>
   intro hq2
   have e : rowsTurn ws liked width σ i = σ := by rw [hturn];show (if 0 < σ.head then _ else σ) = σ;rw [if_neg (of_decide_eq_false hq2)]
   rw [e]
   exact JP.nil fun s S => QN.nil7 (QN.nil7 (QN.nil7 (S.weak (by exact Sub.cons rfl (Sub.cons rfl (Sub.cons rfl (Sub.cons rfl (Sub.cons rfl (Sub.cons rfl (Sub.cons rfl Sub.nil))))))))))
  case n2 =>
   intro hq2
   have e : rowsTurn ws liked width σ i = ⟨σ.rows ++ [if 0 < i then lineOf ws 0 i σ.bare else ofString ""],i,0,0⟩ := by rw [hturn];show (if 0 < σ.head then _ else σ) = _;rw [if_pos (of_decide_eq_true hq2)]
   rw [e]
   refine' JS.xex (XE.append (d := .str (if 0 < i then lineOf ws 0 i σ.bare else ofString "")) ok' (List.mem_cons_self ..) ?u1 ?u2 ?u3) ?u4 ok'
   case u1 => exact JE.var ok' rfl
   case u2 =>
    refine' JE.ifx (q := decide (0 < (i : Int))) ?v1 ?v2 ?v3
    case v1 => exact JT.cmp ok' (JE.var ok' rfl) JE.cint BinR.gt
    case v2 =>
     intro hv
     have hv' : 0 < i := by have := of_decide_eq_true hv;omega
     rw [if_pos hv']
     refine' JE.call ok' ?hm ?hf ?hk ?ha (spec_line ws 0 i σ.bare hl' hn (by omega) (by omega) hj)
     case hm => decide
     case hf => exact JE.glob ok' (by k_is) (kd hE' rfl)
     case hk => k_is
     case ha => exact JEs.cons (JE.var ok' rfl) (JEs.cons JE.cint (JEs.cons (JE.var ok' rfl) (JEs.cons (JE.var ok' rfl) JEs.nil rfl) rfl) rfl) rfl
    case v3 =>
     intro hv
     have hv' : ¬ 0 < i := by have := of_decide_eq_false hv;omega
     rw [if_neg hv']
     exact JE.cstr
   case u3 => simp;omega
   case u4 =>
   rw [rows_snoc]
   refine' JS.assign ok' ?y1 ?y2 ?y3
   case y1 => exact JE.var ok' rfl
   case y3 => exact kl hE' rfl
   case y2 =>
   refine' JS.assign ok' ?z1 ?z2 ?z3
   case z1 => exact JE.cint
   case z3 => exact kl hE' rfl
   case z2 =>
   refine' JS.assign ok' ?w1 ?w2 ?w3
   case w1 => exact JE.cint
   case w3 => exact kl hE' rfl
   case w2 => exact JP.nil fun s S => QN.nil7 (QN.nil7 (QN.nil7 (S.weak (by exact Sub.cons rfl (Sub.cons rfl (Sub.cons rfl (Sub.cons rfl (Sub.cons rfl (Sub.cons rfl (Sub.cons rfl Sub.nil))))))))))
local macro_rules | `(tactic| walk_at "ne") => `(tactic| exact neO)
noncomputable def ltDigit (bits : Int) (p : Nat) : Int := bits / 8 ^ p % 8
noncomputable def ltMarks (bits : Int) (p : Nat) : Str := if bits / 512 / 2 ^ p % 2 == 1 then (if decide (0 < (p : Int)) then ofString "Ss" else ofString "Tt") else ofString "-x"
noncomputable def ltTurn (bits : Int) (p : Nat) (x : Str) : Str := x ++ Txt.item (ofString "-r") (ltDigit bits p / 4) ++ Txt.item (ofString "-w") (ltDigit bits p / 2 % 2) ++ Txt.item (ltMarks bits p) (ltDigit bits p % 2)
noncomputable def tx (bits : Int) : Nat -> Str
 | 0 => Txt.item (ofString "?pc?d?b?-?l?s???") (bits / 4096)
 | i + 1 => ltTurn bits (2 - i) (tx bits i)
noncomputable def listing (bits : Int) : Str := tx bits 3
theorem item_len (x : Str) (i : Int) : (Txt.item x i).length = 1 := len_item x i
theorem cat_len (x y : Str) : (x ++ y).length = x.length + y.length := Str.length_append x y
theorem tx_len (bits : Int) : ∀ i,(tx bits i).length = 1 + 3 * i
 | 0 => item_len _ _
 | i + 1 => by simp only [tx,ltTurn,cat_len,item_len,tx_len bits i];omega
theorem marks_len (bits : Int) (p : Nat) : (ltMarks bits p).length = 2 := by unfold ltMarks;split <;> (try split) <;> rfl
theorem dig_lt (bits : Int) (p : Nat) : 0 ≤ ltDigit bits p ∧ ltDigit bits p < 8 := ⟨Int.emod_nonneg _ (by decide),Int.emod_lt_of_pos _ (by decide)⟩
set_option maxHeartbeats 4000000 in
theorem spec_listing (bits : Int) (h0 : 0 ≤ bits) (h1 : bits < 65536) : Spec 1 259 [.int bits] (.str (listing bits)) := by
 revert bits;intros bits h0 h1
 intros w hb W A s vs g room hst hsz hW hR
 refine rels1 hR ?_;clear hR;intros v;intro r1
 refine' spec_enter (ρ := [(ofString "bits",.int bits)]) (binds := [(ofString "bits",v)]) g room hst hsz hW ?ho ?hcd ?hbind ⟨rfl,r1,trivial⟩ ?hkind ?hnd ?h ?hco ?hgen ?hk
 case ho => k_is
 case hcd => k_is
 case hbind => rfl
 case hkind => rfl
 case hnd => decide
 case hco => rfl
 case hgen => rfl
 case hk => rfl
 intros c s0 L hE hU ok
 refine' JS.assign ok ?h1 ?h2 ?h3
 case h1 => exact JE.sub ok JE.cstr (JE.bin ok (JE.var ok rfl) JE.cint (BinR.div (by omega) (by omega))) (SubR.strN 16 (by decide) (by omega) (by omega))
 case h3 => exact kl hE rfl
 case h2 =>
 refine' JS.forr ok (ds := [.int 2,.int 1,.int 0]) ?it (fun _ => Asr.top _) rfl (fun i => [(ofString "bits",.int bits),(ofString "text",.str (tx bits i))])
  ?h0 (Sto c (Asr.top _) s0 [(ofString "text",.str (listing bits))]) ?turn ?els ?k
 case it => exact JI.tup ok (JE.tup (JEs.cons JE.cint (JEs.cons JE.cint (JEs.cons JE.cint JEs.nil))))
 case h0 => exact Sub.cons rfl (Sub.cons rfl Sub.nil)
 case turn =>
  intros i d hd
  rcases i with _ | _ | _ | i
  case zero =>
   have hd : D.int 2 = d := by simpa using hd
   subst hd
   refine ⟨_,JA.name ok (kl hE rfl),fun s1 e1 => ?_⟩
   refine' JS.assign ok ?h1 ?h2 ?h3
   case h1 => exact JE.bin ok (JE.bin ok (JE.var ok rfl) (JE.bin ok JE.cint (JE.var ok rfl) (BinR.pow (by decide) (by decide +kernel))) (BinR.div (by decide) (by decide))) JE.cint (BinR.mod (by omega))
   case h3 => exact kl hE rfl
   case h2 =>
   refine' JS.assign ok ?g1 ?g2 ?g3
   case g1 => exact JE.cstr
   case g3 => exact kl hE rfl
   case g2 =>
   refine' JS.ifsetS ok ?u1 ?u2 ?u3 ?u4 ?u5
   case u1 => exact JT.cmp ok (JE.bin ok (JE.bin ok (JE.bin ok (JE.var ok rfl) JE.cint (BinR.div (by omega) (by omega))) (JE.bin ok JE.cint (JE.var ok rfl) (BinR.pow (by decide) (by decide +kernel))) (BinR.div (by decide) (by decide))) JE.cint (BinR.mod (by omega))) JE.cint BinR.eq
   case u2 => intro _;refine' JE.strify ?t1 ?t2 ?t3;(case t1 => exact JT.cmp ok (JE.var ok rfl) JE.cint BinR.gt);(case t2 => intro _;exact JE.cstr);(case t3 => intro _;exact JE.cstr)
   case u3 => exact rfl
   case u5 => exact kl hE rfl
   case u4 =>
   refine' JS.re (ρ' := [(ofString "text",.str (tx bits 0)),(ofString "marks",.str (ltMarks bits 2)),(ofString "digit",.int (ltDigit bits 2)),(ofString "bits",.int bits)]) ?r1 ?r2
   case r1 => exact Sub.cons rfl (Sub.cons rfl (Sub.cons rfl (Sub.cons rfl Sub.nil)))
   case r2 =>
   have q := dig_lt bits 2
   refine' JS.assign ok ?k1 ?k2 ?k3
   case k1 => exact JE.bin ok (JE.bin ok (JE.bin ok (JE.var ok rfl) (JE.sub ok JE.cstr (JE.bin ok (JE.var ok rfl) JE.cint (BinR.div (by omega) (by omega))) (SubR.strN 2 (by decide) (by omega) (by omega))) (BinR.cat (by simp only [cat_len,item_len,tx_len];omega))) (JE.sub ok JE.cstr (JE.bin ok (JE.bin ok (JE.var ok rfl) JE.cint (BinR.div (by omega) (by omega))) JE.cint (BinR.mod (by omega))) (SubR.strN 2 (by decide) (by omega) (by omega))) (BinR.cat (by simp only [cat_len,item_len,tx_len];omega))) (JE.sub ok (JE.var ok rfl) (JE.bin ok (JE.var ok rfl) JE.cint (BinR.mod (by omega))) (SubR.strN 2 (marks_len _ 2) (by omega) (by omega))) (BinR.cat (by simp only [cat_len,item_len,tx_len];omega))
   case k3 => exact kl hE rfl
   case k2 =>
   refine' JS.end ?e1
   case e1 => exact Sub.cons rfl (Sub.cons rfl Sub.nil)
  case zero =>
   have hd : D.int 1 = d := by simpa using hd
   subst hd
   refine ⟨_,JA.name ok (kl hE rfl),fun s1 e1 => ?_⟩
   refine' JS.assign ok ?h1 ?h2 ?h3
   case h1 => exact JE.bin ok (JE.bin ok (JE.var ok rfl) (JE.bin ok JE.cint (JE.var ok rfl) (BinR.pow (by decide) (by decide +kernel))) (BinR.div (by decide) (by decide))) JE.cint (BinR.mod (by omega))
   case h3 => exact kl hE rfl
   case h2 =>
   refine' JS.assign ok ?g1 ?g2 ?g3
   case g1 => exact JE.cstr
   case g3 => exact kl hE rfl
   case g2 =>
   refine' JS.ifsetS ok ?u1 ?u2 ?u3 ?u4 ?u5
   case u1 => exact JT.cmp ok (JE.bin ok (JE.bin ok (JE.bin ok (JE.var ok rfl) JE.cint (BinR.div (by omega) (by omega))) (JE.bin ok JE.cint (JE.var ok rfl) (BinR.pow (by decide) (by decide +kernel))) (BinR.div (by decide) (by decide))) JE.cint (BinR.mod (by omega))) JE.cint BinR.eq
   case u2 => intro _;refine' JE.strify ?t1 ?t2 ?t3;(case t1 => exact JT.cmp ok (JE.var ok rfl) JE.cint BinR.gt);(case t2 => intro _;exact JE.cstr);(case t3 => intro _;exact JE.cstr)
   case u3 => exact rfl
   case u5 => exact kl hE rfl
   case u4 =>
   refine' JS.re (ρ' := [(ofString "text",.str (tx bits 1)),(ofString "marks",.str (ltMarks bits 1)),(ofString "digit",.int (ltDigit bits 1)),(ofString "bits",.int bits)]) ?r1 ?r2
   case r1 => exact Sub.cons rfl (Sub.cons rfl (Sub.cons rfl (Sub.cons rfl Sub.nil)))
   case r2 =>
   have q := dig_lt bits 1
   refine' JS.assign ok ?k1 ?k2 ?k3
   case k1 => exact JE.bin ok (JE.bin ok (JE.bin ok (JE.var ok rfl) (JE.sub ok JE.cstr (JE.bin ok (JE.var ok rfl) JE.cint (BinR.div (by omega) (by omega))) (SubR.strN 2 (by decide) (by omega) (by omega))) (BinR.cat (by simp only [cat_len,item_len,tx_len];omega))) (JE.sub ok JE.cstr (JE.bin ok (JE.bin ok (JE.var ok rfl) JE.cint (BinR.div (by omega) (by omega))) JE.cint (BinR.mod (by omega))) (SubR.strN 2 (by decide) (by omega) (by omega))) (BinR.cat (by simp only [cat_len,item_len,tx_len];omega))) (JE.sub ok (JE.var ok rfl) (JE.bin ok (JE.var ok rfl) JE.cint (BinR.mod (by omega))) (SubR.strN 2 (marks_len _ 1) (by omega) (by omega))) (BinR.cat (by simp only [cat_len,item_len,tx_len];omega))
   case k3 => exact kl hE rfl
   case k2 =>
   refine' JS.end ?e1
   case e1 => exact Sub.cons rfl (Sub.cons rfl Sub.nil)
  case zero =>
   have hd : D.int 0 = d := by simpa using hd
   subst hd
   refine ⟨_,JA.name ok (kl hE rfl),fun s1 e1 => ?_⟩
   refine' JS.assign ok ?h1 ?h2 ?h3
   case h1 => exact JE.bin ok (JE.bin ok (JE.var ok rfl) (JE.bin ok JE.cint (JE.var ok rfl) (BinR.pow (by decide) (by decide +kernel))) (BinR.div (by decide) (by decide))) JE.cint (BinR.mod (by omega))
   case h3 => exact kl hE rfl
   case h2 =>
   refine' JS.assign ok ?g1 ?g2 ?g3
   case g1 => exact JE.cstr
   case g3 => exact kl hE rfl
   case g2 =>
   refine' JS.ifsetS ok ?u1 ?u2 ?u3 ?u4 ?u5
   case u1 => exact JT.cmp ok (JE.bin ok (JE.bin ok (JE.bin ok (JE.var ok rfl) JE.cint (BinR.div (by omega) (by omega))) (JE.bin ok JE.cint (JE.var ok rfl) (BinR.pow (by decide) (by decide +kernel))) (BinR.div (by decide) (by decide))) JE.cint (BinR.mod (by omega))) JE.cint BinR.eq
   case u2 => intro _;refine' JE.strify ?t1 ?t2 ?t3;(case t1 => exact JT.cmp ok (JE.var ok rfl) JE.cint BinR.gt);(case t2 => intro _;exact JE.cstr);(case t3 => intro _;exact JE.cstr)
   case u3 => exact rfl
   case u5 => exact kl hE rfl
   case u4 =>
   refine' JS.re (ρ' := [(ofString "text",.str (tx bits 2)),(ofString "marks",.str (ltMarks bits 0)),(ofString "digit",.int (ltDigit bits 0)),(ofString "bits",.int bits)]) ?r1 ?r2
   case r1 => exact Sub.cons rfl (Sub.cons rfl (Sub.cons rfl (Sub.cons rfl Sub.nil)))
   case r2 =>
   have q := dig_lt bits 0
   refine' JS.assign ok ?k1 ?k2 ?k3
   case k1 => exact JE.bin ok (JE.bin ok (JE.bin ok (JE.var ok rfl) (JE.sub ok JE.cstr (JE.bin ok (JE.var ok rfl) JE.cint (BinR.div (by omega) (by omega))) (SubR.strN 2 (by decide) (by omega) (by omega))) (BinR.cat (by simp only [cat_len,item_len,tx_len];omega))) (JE.sub ok JE.cstr (JE.bin ok (JE.bin ok (JE.var ok rfl) JE.cint (BinR.div (by omega) (by omega))) JE.cint (BinR.mod (by omega))) (SubR.strN 2 (by decide) (by omega) (by omega))) (BinR.cat (by simp only [cat_len,item_len,tx_len];omega))) (JE.sub ok (JE.var ok rfl) (JE.bin ok (JE.var ok rfl) JE.cint (BinR.mod (by omega))) (SubR.strN 2 (marks_len _ 0) (by omega) (by omega))) (BinR.cat (by simp only [cat_len,item_len,tx_len];omega))
   case k3 => exact kl hE rfl
   case k2 =>
   refine' JS.end ?e1
   case e1 => exact Sub.cons rfl (Sub.cons rfl Sub.nil)
  case succ => simp at hd
 case els => exact JP.nil fun s S => S.weak (Sub.cons rfl Sub.nil)
 case k =>
  refine' JS.ret ?h1 ?h2
  case h1 => exact JE.var ok rfl
  case h2 => exact fun v s S r => RQ.ret S r
section
set_option maxHeartbeats 1000000
theorem BinR.lcat {a b : List D} (h : a.length + b.length ≤ 100000) : BinR (binaryOp .Add) (.lst a) (.lst b) (.lst (a ++ b)) := by
 revert a b;intros a b h
 intros w W A s u v hh hu hW r1 r2
 obtain @⟨l,vs,rfl,_,hl,hr⟩ := rlst r1
 obtain @⟨b',ws,rfl,_,hb,hr2⟩ := rlst r2
 obtain @⟨⟨cls,dd,data,sl⟩,ho,hc,n,hd⟩ := id hl
 obtain @⟨⟨cls2,dd2,data2,sl2⟩,ho2,hc2,n2,hd2⟩ := id hb
 simp only at hc hd hc2 hd2
 subst hc hd hc2 hd2
 have h1 := hr.length
 have h2 := hr2.length
 have e : vs.toArray ++ ws.toArray = (vs ++ ws).toArray := by simp
 refine concat_meets ⟨_,ho,rfl⟩ ⟨_,ho2,rfl⟩ noFill_list_add seq_list_add PySem.F.slot_list_add PySem.F.entry_list_add (PySem.F.args_list_add_2 _ _) (list_addW l b' vs.toArray ws.toArray n n2 dd dd2 sl sl2 (by rw [sizeLine_eq];simp;omega)) ⟨ho,ho2,?_⟩
 rw [e]
 refine ⟨Ext.push,?_⟩
 unfold Rel
 exact ⟨_,vs ++ ws,rfl,hW.fresh,⟨_,Heap.get?_push_size _ rfl,rfl,_,rfl⟩,(hr.ext Ext.push).append (hr2.ext Ext.push)⟩
theorem rels_intsL {W : List Addr} {h : Heap} : ∀ {ns : List Int} {vs : List Value},Rels W h (ns.map .int) vs -> IntsAre vs ns
 | [],vs,x => by
  unfold List.map Rels at x
  subst x;exact .nil
 | n :: ns,vs,x => by
  unfold List.map Rels at x
  obtain ⟨v,r,rfl,a,b⟩ := x
  obtain ⟨t,rfl⟩ := rint a
  exact .cons _ _ (rels_intsL b)
theorem BinR.eqInts {a b : List Int} : BinR (compareOp .Eq) (.lst (a.map .int)) (.lst (b.map .int)) (.bool (decide (a = b))) := fun w W A s u v hh hu hW r1 r2 => by
 obtain ⟨l,vs,rfl,_,hl,hr⟩ := rlst r1
 obtain ⟨b',ws,rfl,_,hb,hr2⟩ := rlst r2
 exact ke_eq_ints hl hb (rels_intsL hr) (rels_intsL hr2) (by show A.units + 64 < 9900;omega) ⟨Ext.refl _ _,mbool⟩
theorem BinR.neInts {a b : List Int} : BinR (compareOp .NotEq) (.lst (a.map .int)) (.lst (b.map .int)) (.bool (!decide (a = b))) := fun w W A s u v hh hu hW r1 r2 => by
 obtain ⟨l,vs,rfl,_,hl,hr⟩ := rlst r1
 obtain ⟨b',ws,rfl,_,hb,hr2⟩ := rlst r2
 exact ke_ne_ints hl hb (rels_intsL hr) (rels_intsL hr2) (by show A.units + 64 < 9900;omega) ⟨Ext.refl _ _,mbool⟩
theorem BinR.sne {x y : Str} : BinR (compareOp .NotEq) (.str x) (.str y) (.bool (x != y)) := fun w W A s u v hh hu hW r1 r2 => by
 obtain ⟨t,rfl⟩ := rstr r1
 obtain ⟨t',rfl⟩ := rstr r2
 exact PyProof.Rows.ne_str ⟨Ext.refl _ _,mbool⟩
theorem range_one {α β : Type} (l : List α) (z : α) (g : α -> β) : ((List.range l.length).flatMap fun i => [g (l[i]?.getD z)]) = l.map g := by
 rw [← List.map_eq_flatMap]
 refine List.ext_getElem (by simp) fun i h1 h2 => ?_
 have hi : i < l.length := by simpa using h2
 simp [hi]
theorem range_if {α β : Type} (p : α -> Bool) (g : α -> β) (z : α) : ∀ (l : List α),((List.range l.length).flatMap fun i => if p (l[i]?.getD z) then [g (l[i]?.getD z)] else []) = (l.filter p).map g := by
 intro l
 have : ∀ n,n ≤ l.length -> ((List.range n).flatMap fun i => if p (l[i]?.getD z) then [g (l[i]?.getD z)] else []) = ((l.take n).filter p).map g := by
  intro n
  induction n with
  | zero => intro _;rfl
  | succ n ih =>
   intro hn
   have hlt : n < l.length := by omega
   rw [List.range_succ,List.flatMap_append,ih (by omega),List.take_add_one,List.getElem?_eq_getElem hlt,Option.toList_some,List.filter_append,List.map_append]
   congr 1
   have eg : l[n]?.getD z = l[n] := by rw [List.getElem?_eq_getElem hlt];rfl
   rw [List.flatMap_cons,List.flatMap_nil,List.append_nil,eg]
   cases hp : p l[n] <;> simp [List.filter,hp]
 rw [this l.length (Nat.le_refl _),List.take_length]
theorem range_enum {α β : Type} (l : List α) (z : α) (g : α -> Nat -> β) : ((List.range l.length).flatMap fun i => [g (l[i]?.getD z) i]) = l.zipIdx.map fun p => g p.1 p.2 := by
 rw [← List.map_eq_flatMap]
 refine List.ext_getElem (by simp) fun i h1 h2 => ?_
 have hi : i < l.length := by simpa using h1
 simp [hi]
theorem map_getD {α β : Type} {l : List α} {f : α -> β} {i : Nat} {d : β} {z : α} (h : (l.map f)[i]? = some d) : i < l.length ∧ d = f (l[i]?.getD z) ∧ l[i]?.getD z ∈ l := by
 rw [List.getElem?_map] at h
 cases e : l[i]? with
 | none => rw [e] at h;cases h
 | some a =>
  rw [e] at h
  cases h
  exact ⟨(List.getElem?_eq_some_iff.mp e).1,rfl,List.mem_of_getElem? e⟩
end
section
set_option maxHeartbeats 4000000
noncomputable def lwDrawn (ns : List Int) : List Int := (ns.take 12).map fun n => n % 1000000000
noncomputable def lwLead (ns : List Int) : Int := (lwDrawn ns)[0]?.getD 0
noncomputable def lwWidth (ns : List Int) : Int := (lwLead ns + 33) % 60
noncomputable def lwHead (ns : List Int) : Int := lwLead ns / 60 % 4 * 4
noncomputable def likedL : List Str := [ofString "x ",ofString "tT-",ofString "-x",ofString " ",ofString "Tx t",ofString ""]
noncomputable def lwLiked (ns : List Int) : Str := likedL[(lwLead ns / 240 % 6).toNat]?.getD (ofString "")
noncomputable def lwBare (ns : List Int) : Int := lwLead ns / 1440 % 2
noncomputable def lwCame (ns : List Int) : List Int := (lwDrawn ns).map (fun n => n % 65536) ++ [33188]
noncomputable def lwTold (ns : List Int) : List Int := sk (lwCame ns)
noncomputable def lwFws (bare : Int) (i : Nat) : Str := if decide ((i : Int) < bare) then ofString "" else ofString " "
noncomputable def lwEnt (ns : List Int) : List (Str × Int) := (lwTold ns).zipIdx.map fun p => (lwFws (lwBare ns) p.2,p.1)
theorem lead_nonneg (ns : List Int) : 0 ≤ lwLead ns := by
 unfold lwLead
 cases h : (lwDrawn ns)[0]? with
 | none => exact Int.le_refl 0
 | some a =>
  have := List.mem_of_getElem? h
  obtain ⟨b,_,rfl⟩ := List.mem_map.mp this
  exact Int.emod_nonneg _ (by decide)
theorem came_range (ns : List Int) : ∀ b ∈ lwCame ns,0 ≤ b ∧ b < 65536 := by
 intro b hb
 rcases List.mem_append.mp hb with h | h
 ·obtain ⟨a,_,rfl⟩ := List.mem_map.mp h
  exact ⟨Int.emod_nonneg _ (by decide),Int.emod_lt_of_pos _ (by decide)⟩
 ·rw [List.mem_singleton.mp h];decide
theorem drawn_len (ns : List Int) : (lwDrawn ns).length ≤ 12 := by simp [lwDrawn];omega
theorem came_len (ns : List Int) : 1 ≤ (lwCame ns).length ∧ (lwCame ns).length ≤ 13 := by
 have := drawn_len ns
 simp [lwCame];omega
theorem told_mem {ns : List Int} {b : Int} (h : b ∈ lwTold ns) : b ∈ lwCame ns := by
 unfold lwTold sk at h
 obtain ⟨k,_,h⟩ := List.mem_flatMap.mp h
 exact (List.mem_filter.mp h).1
theorem told_outs (ns : List Int) : ((List.range (rangeL 0 1 16).length).flatMap fun (k : Nat) => (List.range ((lwCame ns).map D.int).length).flatMap fun j => if (lwCame ns)[j]?.getD 0 / 4096 == 0 + (k : Int) * 1 then [D.int ((lwCame ns)[j]?.getD 0)] else []) = (lwTold ns).map .int := by
 rw [rangeL_len]
 unfold lwTold sk
 rw [List.map_flatMap]
 refine congrArg (fun f => List.flatMap f (List.range 16)) (funext fun k => ?_)
 rw [List.length_map,range_if (fun b => b / 4096 == 0 + (k : Int) * 1) D.int 0]
 congr 2
 funext b
 have : (0 + (k : Int) * 1) = Int.ofNat k := by simp
 rw [this]
noncomputable def lawI0 : Asr lawW where
 P := fun h => h.get? 184 = some (tabObj #[]) ∧ TabP h 140 ∧ TabP h 147
 st := fun V h h' k hV ⟨e,x,y⟩ => ⟨k _ _ (fun q => (hV _ q).1 (by simp)) e,x.move k (fun q => (hV _ q).1 (by simp)),y.move k (fun q => (hV _ q).1 (by simp))⟩
noncomputable def lwShown (ns : List Int) : Str := shownOf (lwWidth ns) (lwLiked ns) (lwHead ns) (lwEnt ns)
noncomputable def lwRows (ns : List Int) : List Str := rowsOf ((lwTold ns).map listing) (lwHead ns) (lwWidth ns) (lwLiked ns) (lwBare ns)
noncomputable def lwRead (x : Str) : Int := readTo (Txt.slice x (some 1) none) (Txt.slice x (some 1) none).length
theorem told_len (ns : List Int) : (lwTold ns).length ≤ 16 * 13 := by
 have hcl := (came_len ns).2
 unfold lwTold sk
 have : ∀ (l : List Nat),(l.flatMap fun (k : Nat) => (lwCame ns).filter fun b => b / 4096 == Int.ofNat k).length ≤ l.length * 13 := fun l => by
  induction l with
  | nil => simp
  | cons a r ih =>
   have := List.length_filter_le (fun b => b / 4096 == Int.ofNat a) (lwCame ns)
   simp only [List.flatMap_cons,List.length_append,List.length_cons] at *
   omega
 have := this (List.range 16)
 simpa using this
theorem liked_len (ns : List Int) : (lwLiked ns).length ≤ 4 := by
 unfold lwLiked
 cases h : likedL[(lwLead ns / 240 % 6).toNat]? with
 | none => decide
 | some x =>
  have key : ∀ x ∈ likedL,x.length ≤ 4 := by decide
  exact key x (List.mem_of_getElem? h)
theorem txtjoin_le (ys : List Str) : (Txt.join (ofString " ") ys).length ≤ (ys.map (·.length)).sum + ys.length := by
 have := StrLaws.join_length_le (ofString " ") ys
 have e : (ofString " ").length = 1 := rfl
 rw [e,Nat.mul_one] at this
 rw [txt_join];exact this
structure LawOk (ns : List Int) : Prop where
 tl : (lwTold ns).length = (lwCame ns).length
 rows : lwShown ns = Txt.join (ofString "\n") (lwRows ns)
 read : (Txt.words (lwShown ns)).map lwRead = (lwTold ns).map fun b => Builtin.bitAnd b 4095
 wlen : ∀ x ∈ Txt.words (lwShown ns),x.length = 10 ∧ (Txt.slice x (some 1) none).length ≤ 9
 slen : (lwShown ns).length ≤ 100000
 rlen : ((lwRows ns).map (·.length)).sum + (lwRows ns).length ≤ 1048576
theorem spec_law {w : World} {hb : Heap} (ns : List Int) (g : Amb w hb lawW lawW) (hn : ns.length ≤ 63) (OK : LawOk ns) :
  SpecC w hb lawW lawW 17 297 lawI0 [.lst (ns.map .int)] (.bool true) lawI := by
 revert w hb ns;intros w hb ns g hn OK
 intros A s vs room hst hsz hW hI hR
 refine rels1 hR ?_;clear hR;intro v1 r1
 refine' spec_enterXC (I := lawI0) (ρ := [(ofString "script",.lst (ns.map .int))]) (binds := [(ofString "script",v1)]) g room hst hsz hW hI ?ho ?hcd ?hbind ⟨rfl,r1,trivial⟩ ?hkind ?hnd ?h ?hco ?hgen ?hk
 case ho => k_is
 case hcd => k_is
 case hbind => rfl
 case hkind => rfl
 case hnd => decide
 case hco => rfl
 case hgen => rfl
 case hk => rfl
 intros A' env s0 L hE ok
 have hE' : (Cx.mk w hb lawW lawW A' env).env = _ := hE
 have hlead := lead_nonneg ns
 have hcl := came_len ns
 have hdl := drawn_len ns
 refine' JS.compAssign (c := Cx.mk w hb lawW lawW A' env) (I := lawI0) (outs := (lwDrawn ns).map .int) (ρ2 := []) ok (JI.lst ok (JE.sliceTo (j := 12) ok (JE.var ok rfl) JE.cint ?d3)) ?co1 CapOk.nil ?len1 ?body1 ?k1 ?hk1 ?hsw1
 case d3 => simp;omega
 case co1 =>
  refine' ⟨?o1,?o2,?o3,?o4,?o5,?o6⟩
  case o1 => rw [hE'];rfl
  case o2 => rfl
  case o3 => decide
  case o4 => decide
  case o5 => exact fun p hp => nomatch hp
  case o6 => exact List.nodup_nil
 case len1 => simp;omega
 case hk1 => exact kl hE' rfl
 case hsw1 => rw [hE'];rfl
 case body1 =>
  intros d0 C ok2
  have e1 : (lwDrawn ns).map D.int = (List.range ((ns.map D.int).take 12).length).flatMap fun i => [D.int ((ns.take 12)[i]?.getD 0 % 1000000000)] := by
   have := range_one (ns.take 12) 0 (fun n => D.int (n % 1000000000))
   rw [← List.map_take,List.length_map,this]
   unfold lwDrawn
   rw [List.map_map];rfl
  rw [e1]
  refine' CL.mk ok2 (List.mem_cons_self ..) rfl (fun i => [D.int ((ns.take 12)[i]?.getD 0 % 1000000000)]) ?tu_1
  intros i d hd
  rw [← List.map_take] at hd
  obtain ⟨hi,rfl,_⟩ := map_getD (z := 0) hd
  refine ⟨_,true,JAl.name ok2 (kdE (comp_env hE') rfl),?sb_1,fun pre => JTs.nil,(fun h => by cases h),fun _ => Emit.elt rfl fun pre => ?el_1⟩
  case sb_1 => exact Sub.nil
  case el_1 => exact JE.bin ok2 (JE.var ok2 rfl) (JE.bin ok2 JE.cint JE.cint (BinR.pow (by decide) (by decide +kernel))) (BinR.mod (by decide))
 case k1 =>
 refine' JS.assign ok (d := .int (lwLead ns)) (JE.conv (JE.intify (q := !((lwDrawn ns).map D.int).isEmpty) (x1 := lwLead ns) (x2 := 0) (JT.plain ok (JE.var ok rfl) (TruR.lst (by simp;omega))) (fun q => JE.sub ok (JE.var ok rfl) JE.cint (SubR.lst (d := .int (lwLead ns)) (by decide) ?l1 (by simp;omega))) (fun q => JE.cint)) ?l2) ?k2 ?hk2
 case hk2 => exact kl hE' rfl
 case l1 =>
  have hne : lwDrawn ns ≠ [] := fun h => by rw [h] at q;cases q
  obtain ⟨a,r,e⟩ := List.exists_cons_of_ne_nil hne
  show ((lwDrawn ns).map D.int)[0]? = some (.int (lwLead ns))
  unfold lwLead
  rw [e];rfl
 case l2 =>
  congr 1
  cases h : lwDrawn ns with
  | nil => show (0 : Int) = lwLead ns;unfold lwLead;rw [h];rfl
  | cons a r => rfl
 case k2 =>
 refine JS.assign ok (d := .int (lwWidth ns)) (JE.conv (JE.bin ok (JE.bin ok (JE.var ok rfl) JE.cint BinR.add) JE.cint (BinR.mod (by decide))) rfl) ?_ (kl hE' rfl)
 refine JS.assign ok (d := .int (lwHead ns)) (JE.conv (JE.bin ok (JE.bin ok (JE.bin ok (JE.var ok rfl) JE.cint (BinR.div (by decide) (by decide))) JE.cint (BinR.mod (by decide))) JE.cint (BinR.mul (IntMulOk.of_right (by decide +kernel)))) rfl) ?_ (kl hE' rfl)
 have hk6 : 0 ≤ lwLead ns / 240 % 6 ∧ lwLead ns / 240 % 6 < 6 := ⟨Int.emod_nonneg _ (by decide),Int.emod_lt_of_pos _ (by decide)⟩
 have hlk : (likedL.map D.str)[(lwLead ns / 240 % 6).toNat]? = some (.str (lwLiked ns)) := by
  unfold lwLiked
  have h6 : (lwLead ns / 240 % 6).toNat < likedL.length := by show _ < 6;omega
  rw [List.getElem?_map,List.getElem?_eq_getElem h6];rfl
 refine JS.assign ok (d := .str (lwLiked ns)) (JE.sub ok (JE.lst (ds := likedL.map D.str) (JEs.cons JE.cstr (JEs.cons JE.cstr (JEs.cons JE.cstr (JEs.cons JE.cstr (JEs.cons JE.cstr (JEs.cons JE.cstr JEs.nil rfl) rfl) rfl) rfl) rfl) rfl) (by decide)) (JE.bin ok (JE.bin ok (JE.var ok rfl) JE.cint (BinR.div (by decide) (by decide))) JE.cint (BinR.mod (by decide))) (SubR.lst hk6.1 hlk (by decide))) ?_ (kl hE' rfl)
 refine' JS.assign ok (d := .int (lwBare ns)) (JE.conv (JE.bin ok (JE.bin ok (JE.var ok rfl) JE.cint (BinR.div (by decide) (by decide))) JE.cint (BinR.mod (by decide))) rfl) ?k3 ?hk3
 case hk3 => exact kc hE' rfl rfl
 case k3 =>
 refine' JS.assign ok (d := .lst ((lwCame ns).map .int)) (JE.conv (JE.bin ok (JE.comp (cl := []) (outs := ((lwDrawn ns).map fun n => n % 65536).map D.int) (ρ2 := []) ok (JI.lst ok (JE.var ok rfl)) ?co2 CapOk.nil ?len2 ?body2) (JE.lst (JEs.cons JE.cint JEs.nil rfl) (by simp)) (BinR.lcat ?lc)) ?cv2) ?k4 ?hk4
 case co2 =>
  refine' ⟨?o1,?o2,?o3,?o4,?o5,?o6⟩
  case o1 => rw [hE'];rfl
  case o2 => rfl
  case o3 => decide
  case o4 => decide
  case o5 => exact fun p hp => nomatch hp
  case o6 => exact List.nodup_nil
 case len2 => simp;omega
 case lc => simp;omega
 case cv2 => simp [lwCame]
 case hk4 => exact kc hE' rfl rfl
 case body2 =>
  intros d0 C ok2
  have e1 : ((lwDrawn ns).map fun n => n % 65536).map D.int = (List.range ((lwDrawn ns).map D.int).length).flatMap fun i => [D.int ((lwDrawn ns)[i]?.getD 0 % 65536)] := by
   have := range_one (lwDrawn ns) 0 (fun n => D.int (n % 65536))
   rw [List.length_map,this,List.map_map];rfl
  rw [e1]
  refine' CL.mk ok2 (List.mem_cons_self ..) rfl (fun i => [D.int ((lwDrawn ns)[i]?.getD 0 % 65536)]) ?tu_2
  intros i d hd
  obtain ⟨hi,rfl,_⟩ := map_getD (z := 0) hd
  refine ⟨_,true,JAl.name ok2 (kdE (comp_env hE') rfl),?sb_2,fun pre => JTs.nil,(fun h => by cases h),fun _ => Emit.elt rfl fun pre => ?el_2⟩
  case sb_2 => exact Sub.nil
  case el_2 => exact JE.bin ok2 (JE.var ok2 rfl) JE.cint (BinR.mod (by decide))
 case k4 =>
 refine' JS.compAssign (outs := (lwTold ns).map .int) (ρ2 := [(ofString "came",.lst ((lwCame ns).map .int))]) ok (JI.range1 (i := 16) (k := 16) ok (JE.bltn ok (by k_is) boot_range (by decide) (kd hE' rfl)) JE.cint rfl (by decide) (by decide)) ?co3 ?cap3 ?len3 ?body3 ?k5 ?hk5 ?hsw3
 case co3 =>
  refine' ⟨?o1,?o2,?o3,?o4,?o5,?o6⟩
  case o1 => rw [hE'];rfl
  case o2 => rfl
  case o3 => decide
  case o4 => decide
  case o5 => rw [hE'];simp [envOfC,cellsFrom]
  case o6 => simp
 case cap3 =>
  refine' CapOk.cons ?p1 ?p2 ?p3 ?p4 CapOk.nil
  case p1 => rfl
  case p2 => rw [hE'];rfl
  case p3 => rw [hE'];rfl
  case p4 => rfl
 case len3 => have := told_len ns;simp;omega
 case hk5 => exact kl hE' rfl
 case hsw3 => rw [hE'];rfl
 case body3 =>
  intros d0 C ok2
  rw [← told_outs ns]
  refine' CL.mk ok2 (List.mem_cons_self ..) rfl (fun (k : Nat) => (List.range ((lwCame ns).map D.int).length).flatMap fun j => if (lwCame ns)[j]?.getD 0 / 4096 == 0 + (k : Int) * 1 then [D.int ((lwCame ns)[j]?.getD 0)] else []) ?tu_3
  intros k d hd
  obtain ⟨hk',rfl⟩ := rangeL_get hd
  refine ⟨_,true,JAl.name ok2 (kdE (comp_env hE') rfl),?sb_3,fun pre => JTs.nil,(fun h => by cases h),fun _ => Emit.more rfl (fun pre => JI.lst ok2 (JE.var ok2 rfl)) (fun _ => rfl) (CL.mk ok2 (List.mem_cons_self ..) rfl (fun j => if (lwCame ns)[j]?.getD 0 / 4096 == 0 + (k : Int) * 1 then [D.int ((lwCame ns)[j]?.getD 0)] else []) ?inner_3)⟩
  case sb_3 => exact Sub.cons rfl Sub.nil
  case inner_3 =>
  intros j d hd
  obtain ⟨hj,rfl,_⟩ := map_getD (z := 0) hd
  refine ⟨_,(lwCame ns)[j]?.getD 0 / 4096 == 0 + (k : Int) * 1,JAl.name ok2 (kdE (comp_env hE') rfl),?sb2_3,fun pre => JTs.one (JT.cmp ok2 (JE.bin ok2 (JE.var ok2 rfl) JE.cint (BinR.div (by decide) (by decide))) (JE.var ok2 rfl) BinR.eq (by with_unfolding_all rfl)),(fun h => by rw [h];rfl),fun h => ?yes_3⟩
  case sb2_3 => exact Sub.cons rfl (Sub.cons rfl Sub.nil)
  case yes_3 =>
   rw [if_pos h]
   exact Emit.elt rfl fun pre => JE.var ok2 rfl
 case k5 =>
 refine' JS.sortK (I' := lawI) (ns := lwCame ns) ok (by decide) (by simp) (JE.bltn ok (by k_is) boot_sorted (by decide) (kd hE' rfl)) (JE.glob ok (by k_is) (kd hE' rfl)) (JE.glob ok (by k_is) (kd hE' rfl)) (JE.var ok rfl) hcl.1 (by omega) (came_range ns) (fun h x => x.1) ?hI2 ?hk6 ?k6
 case hk6 => exact kl hE' rfl
 case hI2 =>
  intro h h' ⟨x1,x2,x3⟩ k ⟨ps,hps⟩
  exact ⟨⟨ps,hps⟩,x2.move (V := [184]) (fun b o nb e => k b o (fun q => nb (List.mem_singleton.mpr q)) e) (by decide),x3.move (V := [184]) (fun b o nb e => k b o (fun q => nb (List.mem_singleton.mpr q)) e) (by decide)⟩
 case k6 =>
 have hne : BinR (compareOp .NotEq) (.lst ((lwTold ns).map .int)) (.lst ((lwTold ns).map .int)) (.bool false) := by
  have := BinR.neInts (a := lwTold ns) (b := lwTold ns)
  simpa using this
 refine JS.iff (q := false) (JT.cmp ok (JE.var ok (d := .lst ((lwTold ns).map .int)) rfl) (JE.var ok (d := .lst ((lwTold ns).map .int)) rfl) hne (by with_unfolding_all rfl)) (fun q => by cases q) (fun _ => JP.next ?_)
 have hml := told_len ns
 refine' JS.compAssign (outs := (lwEnt ns).map entD) (ρ2 := [(ofString "bare",.int (lwBare ns))]) ok (JI.enumL ok (JE.bltn ok (by k_is) boot_enumerate (by decide) (kd hE' rfl)) (JE.var ok (d := .lst ((lwTold ns).map .int)) rfl)) ?co5 ?cap5 ?len5 ?body5 ?k7 ?hk7 ?hsw5
 case co5 =>
  refine' ⟨?o1,?o2,?o3,?o4,?o5,?o6⟩
  case o1 => rw [hE'];rfl
  case o2 => rfl
  case o3 => decide
  case o4 => decide
  case o5 => rw [hE'];simp [envOfC,cellsFrom]
  case o6 => simp
 case cap5 =>
  refine' CapOk.cons ?p1 ?p2 ?p3 ?p4 CapOk.nil
  case p1 => rfl
  case p2 => rw [hE'];rfl
  case p3 => rw [hE'];rfl
  case p4 => rfl
 case len5 => simp [lwEnt];omega
 case hk7 => exact kl hE' rfl
 case hsw5 => rw [hE'];rfl
 case body5 =>
  intros d0 C ok2
  have e1 : (lwEnt ns).map entD = (List.range (enumL ((lwTold ns).map D.int)).length).flatMap fun i => [entD (lwFws (lwBare ns) i,(lwTold ns)[i]?.getD 0)] := by
   have := range_enum (lwTold ns) 0 (fun m i => entD (lwFws (lwBare ns) i,m))
   rw [enumL_len,List.length_map,this]
   unfold lwEnt
   rw [List.map_map];rfl
  rw [e1]
  refine' CL.mk ok2 (List.mem_cons_self ..) rfl (fun i => [entD (lwFws (lwBare ns) i,(lwTold ns)[i]?.getD 0)]) ?tuE
  intros i d hd
  obtain ⟨d1,hd1,rfl⟩ := enumL_get hd
  obtain ⟨hi,rfl,_⟩ := map_getD (z := 0) hd1
  refine ⟨_,true,JAl.pair ok2 (kdE (comp_env hE') rfl) (kdE (comp_env hE') rfl),?sbE,fun pre => JTs.nil,(fun h => by cases h),fun _ => Emit.elt rfl fun pre => ?elE⟩
  case sbE => exact Sub.cons rfl Sub.nil
  case elE => exact JE.tup (ds := [.str (lwFws (lwBare ns) i),.int ((lwTold ns)[i]?.getD 0)]) (JEs.cons (JE.strify (JT.cmp ok2 (JE.var ok2 rfl) (JE.var ok2 rfl) BinR.lt (by with_unfolding_all rfl)) (fun _ => JE.cstr) (fun _ => JE.cstr)) (JEs.cons (JE.var ok2 rfl) JEs.nil rfl) rfl) (by simp)
 case k7 =>
 have hll := liked_len ns
 have htl := OK.tl
 have hel : (lwEnt ns).length = (lwTold ns).length := by simp [lwEnt]
 have hhd : 0 ≤ lwHead ns ∧ lwHead ns < 100000 := by
  have h1 : 0 ≤ lwLead ns / 60 % 4 := Int.emod_nonneg _ (by decide)
  have h2 : lwLead ns / 60 % 4 < 4 := Int.emod_lt_of_pos _ (by decide)
  unfold lwHead;omega
 have hfw : ∀ p ∈ lwEnt ns,p.1.length ≤ 1 := fun p hp => by
  obtain ⟨q,_,rfl⟩ := List.mem_map.mp hp
  show (lwFws _ _).length ≤ 1
  unfold lwFws
  split <;> decide
 refine JS.xassign (I' := lawI) (d := .str (lwShown ns)) ok (xe_shown (es := lwEnt ns) (head := lwHead ns) (width := lwWidth ns) (liked := lwLiked ns) g.g ok (by decide) (kd hE' rfl) (kd hE' rfl) (kd hE' rfl) rfl rfl rfl rfl (by omega) (by omega) hfw (by omega) hhd.1 hhd.2) ?_ (kl hE' rfl)
 have hlist10 : ∀ x ∈ (lwTold ns).map listing,x.length = 10 := fun x hx => by
  obtain ⟨b,_,rfl⟩ := List.mem_map.mp hx
  exact tx_len b 3
 have hsn : BinR (compareOp .NotEq) (.str (lwShown ns)) (.str (Txt.join (ofString "\n") (lwRows ns))) (.bool false) := by
  have := BinR.sne (x := lwShown ns) (y := Txt.join (ofString "\n") (lwRows ns))
  have e : (lwShown ns != Txt.join (ofString "\n") (lwRows ns)) = false := by rw [OK.rows];simp
  rw [e] at this;exact this
 refine JS.iff (q := false) (JT.cmp ok (JE.var ok (d := .str (lwShown ns)) rfl) (JE.join (ys := lwRows ns) ok JE.cstr (JE.call ok (m := 3) (by decide) (JE.glob ok (by k_is) (kd hE' rfl)) (by k_is) (JEs.cons (JE.comp (cl := []) (outs := ((lwTold ns).map listing).map D.str) (ρ2 := []) ok (JI.lst ok (JE.var ok (d := .lst ((lwTold ns).map .int)) rfl)) ?co6 CapOk.nil ?len6 ?body6) (JEs.cons (JE.var ok (d := .int (lwHead ns)) rfl) (JEs.cons (JE.var ok (d := .int (lwWidth ns)) rfl) (JEs.cons (JE.var ok (d := .str (lwLiked ns)) rfl) (JEs.cons (JE.var ok (d := .int (lwBare ns)) rfl) JEs.nil rfl) rfl) rfl) rfl) rfl) (spec_rows ((lwTold ns).map listing) (lwHead ns) (lwWidth ns) (lwLiked ns) (lwBare ns) hlist10 (by simp;omega) (by have := hll;show (lwLiked ns).length ≤ 10;omega) txtjoin_le)) (by decide) OK.rlen) hsn (by with_unfolding_all rfl)) (fun q => by cases q) (fun _ => JP.next ?_)
 case co6 =>
  refine' ⟨?o1,?o2,?o3,?o4,?o5,?o6⟩
  case o1 => rw [hE'];rfl
  case o2 => rfl
  case o3 => decide
  case o4 => decide
  case o5 => exact fun p hp => nomatch hp
  case o6 => exact List.nodup_nil
 case len6 => simp;omega
 case body6 =>
  intros d0 C ok2
  have e1 : ((lwTold ns).map listing).map D.str = (List.range ((lwTold ns).map D.int).length).flatMap fun i => [D.str (listing ((lwTold ns)[i]?.getD 0))] := by
   have := range_one (lwTold ns) 0 (fun n => D.str (listing n))
   rw [List.length_map,this,List.map_map];rfl
  rw [e1]
  refine' CL.mk ok2 (List.mem_cons_self ..) rfl (fun i => [D.str (listing ((lwTold ns)[i]?.getD 0))]) ?tuF
  intros i d hd
  obtain ⟨hi,rfl,hmem⟩ := map_getD (z := 0) hd
  have hrg := came_range ns _ (told_mem hmem)
  refine ⟨_,true,JAl.name ok2 (kdE (comp_env hE') rfl),?sbF,fun pre => JTs.nil,(fun h => by cases h),fun _ => Emit.elt rfl fun pre => ?elF⟩
  case sbF => exact Sub.nil
  case elF => exact JE.call ok2 (m := 1) (by decide) (JE.glob ok2 (by k_is) (kdE (comp_env hE') rfl)) (by k_is) (JEs.cons (JE.var ok2 rfl) JEs.nil rfl) (spec_listing _ hrg.1 hrg.2)
 have hno : ∀ h D' vs,lawI.P h -> D' ∈ lawW -> ¬ h.IsList D' vs := fun h D' vs ⟨⟨ps,e1⟩,⟨ps2,e2,_⟩,⟨ps3,e3,_⟩⟩ hD ⟨o,eo,hc,_⟩ => by
  simp only [List.mem_cons,List.not_mem_nil,or_false] at hD
  rcases hD with rfl | rfl | rfl
  ·rw [e1] at eo;cases eo;cases hc
  ·rw [e2] at eo;cases eo;cases hc
  ·rw [e3] at eo;cases eo;cases hc
 have heq : BinR (compareOp .Eq) (.lst (((Txt.words (lwShown ns)).map lwRead).map .int)) (.lst (((lwTold ns).map fun b => Builtin.bitAnd b 4095).map .int)) (.bool true) := by
  have := BinR.eqInts (a := (Txt.words (lwShown ns)).map lwRead) (b := (lwTold ns).map fun b => Builtin.bitAnd b 4095)
  rw [decide_eq_true OK.read] at this;exact this
 have hwn : (Txt.words (lwShown ns)).length = (lwTold ns).length := by
  have := congrArg List.length OK.read
  simpa using this
 refine JS.ret (JE.cmp ok (JE.comp (cl := []) (outs := ((Txt.words (lwShown ns)).map lwRead).map D.int) (ρ2 := []) ok (JI.lst ok (JE.split ok (JE.var ok (d := .str (lwShown ns)) rfl) OK.slen hno)) ?co7 CapOk.nil ?len7 ?body7) (JE.comp (cl := []) (outs := ((lwTold ns).map fun b => Builtin.bitAnd b 4095).map D.int) (ρ2 := []) ok (JI.lst ok (JE.var ok (d := .lst ((lwTold ns).map .int)) rfl)) ?co8 CapOk.nil ?len8 ?body8) heq (by with_unfolding_all rfl)) fun v s S r => RQX.ret S r id
 case co7 =>
  refine' ⟨?o1,?o2,?o3,?o4,?o5,?o6⟩
  case o1 => rw [hE'];rfl
  case o2 => rfl
  case o3 => decide
  case o4 => decide
  case o5 => exact fun p hp => nomatch hp
  case o6 => exact List.nodup_nil
 case len7 => simp;omega
 case body7 =>
  intros d0 C ok2
  have e1 : ((Txt.words (lwShown ns)).map lwRead).map D.int = (List.range ((Txt.words (lwShown ns)).map D.str).length).flatMap fun i => [D.int (lwRead ((Txt.words (lwShown ns))[i]?.getD (ofString "")))] := by
   have := range_one (Txt.words (lwShown ns)) (ofString "") (fun n => D.int (lwRead n))
   rw [List.length_map,this,List.map_map];rfl
  rw [e1]
  refine' CL.mk ok2 (List.mem_cons_self ..) rfl (fun i => [D.int (lwRead ((Txt.words (lwShown ns))[i]?.getD (ofString "")))]) ?tuG
  intros i d hd
  obtain ⟨hi,rfl,hmem⟩ := map_getD (z := ofString "") hd
  have hwl := OK.wlen _ hmem
  refine ⟨_,true,JAl.name ok2 (kdE (comp_env hE') rfl),?sbG,fun pre => JTs.nil,(fun h => by cases h),fun _ => Emit.elt rfl fun pre => ?elG⟩
  case sbG => exact Sub.nil
  case elG => exact je_read ok2 (by decide) rfl (by decide) (by omega) hwl.2 (kdE (comp_env hE') rfl) (kdE (comp_env hE') rfl) (kdE (comp_env hE') rfl)
 case co8 =>
  refine' ⟨?o1,?o2,?o3,?o4,?o5,?o6⟩
  case o1 => rw [hE'];rfl
  case o2 => rfl
  case o3 => decide
  case o4 => decide
  case o5 => exact fun p hp => nomatch hp
  case o6 => exact List.nodup_nil
 case len8 => simp;omega
 case body8 =>
  intros d0 C ok2
  have e1 : ((lwTold ns).map fun b => Builtin.bitAnd b 4095).map D.int = (List.range ((lwTold ns).map D.int).length).flatMap fun i => [D.int (Builtin.bitAnd ((lwTold ns)[i]?.getD 0) 4095)] := by
   have := range_one (lwTold ns) 0 (fun n => D.int (Builtin.bitAnd n 4095))
   rw [List.length_map,this,List.map_map];rfl
  rw [e1]
  refine' CL.mk ok2 (List.mem_cons_self ..) rfl (fun i => [D.int (Builtin.bitAnd ((lwTold ns)[i]?.getD 0) 4095)]) ?tuH
  intros i d hd
  obtain ⟨hi,rfl,hmem⟩ := map_getD (z := 0) hd
  refine ⟨_,true,JAl.name ok2 (kdE (comp_env hE') rfl),?sbH,fun pre => JTs.nil,(fun h => by cases h),fun _ => Emit.elt rfl fun pre => ?elH⟩
  case sbH => exact Sub.nil
  case elH => exact JE.call ok2 (m := 1) (by decide) (JE.glob ok2 (by k_is) (kdE (comp_env hE') rfl)) (by k_is) (JEs.cons (JE.var ok2 rfl) JEs.nil rfl) (spec_imode _)
end
section
set_option maxHeartbeats 1000000
theorem rels_of_ints {W : List Addr} {h : Heap} : ∀ {vs : List Value} {ns : List Int},IntsAre vs ns -> Rels W h (ns.map .int) vs
 | _,_,.nil => by unfold List.map Rels;rfl
 | _,_,.cons n t r => by
  show Rels W h (.int n :: _) (.int n t :: _)
  unfold Rels
  exact ⟨_,_,rfl,mint,rels_of_ints r⟩
noncomputable abbrev lawTabs : List (Addr × Addr) := [(188,184),(144,140),(151,147)]
theorem noTabsK (P : Params) : noTabs (hd.heap_1 P) = true := by kernel_rfl
theorem law_run {p : Program} {loose : List Str} {mean : ExcName -> Option Value} {mg mb : Str -> Option Value} {w : World} {s : Shared} {l : Addr} {vs : List Value} {ns : List Int} (X : (hd.heap_1 w.params).In s.heap) (hT8 : ∀ P ∈ [140,147,184],s.heap.get? P = some (tabObj #[])) (T : Top p loose mean mg mb s.heap)
  (hl : s.heap.IsList l vs.toArray) (hi : IntsAre vs ns) (hn : ns.length ≤ 63) (OK : LawOk ns) :
  codeAny (model PR w) callerA (.call (.ref 297) ⟨[.ref l],[]⟩) (retOf fun v s' => Ext lawW s s' ∧ v = .bool true ∧ lawI.P s'.heap) s := by
 revert p loose mean mg mb w s l vs ns;intros p loose mean mg mb w s l vs ns X hT8 T hl hi hn OK
 have hT : TabsAt lawTabs s.heap := by
  intros q hq
  simp only [List.mem_cons,List.not_mem_nil,or_false] at hq
  rcases hq with rfl | rfl | rfl
  ·exact ⟨codeHd_of_K X (hcd188 _),hT8 184 (by simp)⟩
  ·exact ⟨codeHd_of_K X (hcd144 _),hT8 140 (by simp)⟩
  ·exact ⟨codeHd_of_K X (hcd151 _),hT8 147 (by simp)⟩
 have X2 := ghost_K hT X (noTabsK _)
 have T2 := ghost_top hT T
 have hB : ∃ ob,(ghostOf s.heap lawTabs).get? 4 = some ob ∧ ob.cls = .type "module" ∧ ob.dict = some builtinsNs ∧ ob.data = .plain := by
  obtain @⟨bm,ob,a1,a2,a3,a4,a5,a6⟩ := T2.bmain
  have e := mg_of X2 T2.g (show nsIn (hd.heap_1 w.params) mainGlobals (ofString "__builtins__") = some (some (.ref 4)) by k_is)
  have e2 : mg "__builtins__" = some (.ref 4) := e
  rw [a1] at e2
  cases e2
  exact ⟨ob,a3,a4,a5,a6⟩
 have g : Amb w (ghostOf s.heap lawTabs) lawW lawW := ⟨⟨X2,⟨_,_,_,_,topRead_of T2⟩,hB⟩,fun b q => hideAll_none _ q,fun b q => q⟩
 have tab0 : ∀ P,s.heap.get? P = some (tabObj #[]) -> TabP s.heap P := fun P e => ⟨#[],e,trivial⟩
 have hlW : l ∉ lawW := fun q => by
  obtain @⟨o,eo,hc,_⟩ := hl
  simp only [List.mem_cons,List.not_mem_nil,or_false] at q
  rcases q with rfl | rfl | rfl
  ·rw [hT8 184 (by simp)] at eo;cases eo;cases hc
  ·rw [hT8 140 (by simp)] at eo;cases eo;cases hc
  ·rw [hT8 147 (by simp)] at eo;cases eo;cases hc
 refine codeAny_mono (spec_law ns g hn OK callerA s [.ref l] ⟨rfl,by decide,by decide⟩ (fun b o e => of_hideAll _ e) (Nat.le_of_eq (hideAll_size _ _)) ?_ ⟨hT8 184 (by simp),tab0 _ (hT8 140 (by simp)),tab0 _ (hT8 147 (by simp))⟩ ?_) ?_
 ·intros b q
  simp only [List.mem_cons,List.not_mem_nil,or_false] at q
  rcases q with rfl | rfl | rfl
  ·exact ⟨_,hT8 184 (by simp)⟩
  ·exact ⟨_,hT8 140 (by simp)⟩
  ·exact ⟨_,hT8 147 (by simp)⟩
 ·unfold Rels
  refine ⟨_,_,rfl,?_,by unfold Rels;rfl⟩
  unfold Rel
  exact ⟨l,vs,rfl,hlW,hl,rels_of_ints hi⟩
 ·intros r s' z
  rcases r with e | fl
  ·exact z.elim
  ·cases fl with
   | ret v => exact ⟨z.1,rbool z.2.1,z.2.2.2⟩
   | _ => exact z.elim
theorem law_old {s s' : Shared} (hT : TabsAt lawTabs s.heap) (e : Ext lawW s s') (hI : lawI.P s'.heap) : OldK s.heap s'.heap := by
 revert s s';intros s s' hT e hI
 have grown : ∀ b o,b ∈ lawW -> s.heap.get? b = some o -> isCodeTable s.heap b ∧ o = tabObj #[] ∧ ∃ ps,s'.heap.get? b = some (tabObj ps) := fun b o hb eo => by
  simp only [List.mem_cons,List.not_mem_nil,or_false] at hb
  obtain @⟨⟨ps,h1⟩,⟨ps2,h2,_⟩,⟨ps3,h3,_⟩⟩ := hI
  rcases hb with rfl | rfl | rfl
  ·have h := hT (188,184) (by simp)
   have h4 := h.2;rw [eo] at h4
   exact ⟨(h.1.tab h.2).isCodeTable,Option.some.inj h4,ps,h1⟩
  ·have h := hT (144,140) (by simp)
   have h4 := h.2;rw [eo] at h4
   exact ⟨(h.1.tab h.2).isCodeTable,Option.some.inj h4,ps2,h2⟩
  ·have h := hT (151,147) (by simp)
   have h4 := h.2;rw [eo] at h4
   exact ⟨(h.1.tab h.2).isCodeTable,Option.some.inj h4,ps3,h3⟩
 refine ⟨fun b o eo => ?_,fun b o eo => ?_⟩
 ·by_cases hb : b ∈ lawW
  ·obtain @⟨ht,rfl,ps,hP⟩ := grown b o hb eo
   exact .inr (.inl ⟨ht,rfl,#[],ps,rfl,by rw [Array.empty_append];exact hP⟩)
  ·exact .inl (e.keep b o hb eo)
 ·by_cases hb : b ∈ lawW
  ·obtain @⟨_,_,ps,hP⟩ := grown b o hb eo
   exact ⟨_,hP⟩
  ·exact ⟨o,e.keep b o hb eo⟩
end
theorem pLt_iff {a b : Int × Int} : pLt a b = true ↔ a.1 < b.1 ∨ (a.1 = b.1 ∧ a.2 < b.2) := by
 unfold pLt
 by_cases h : a.1 = b.1
 ·rw [if_pos (beq_iff_eq.mpr h)]
  by_cases h2 : a.2 = b.2
  ·rw [if_pos (beq_iff_eq.mpr h2)]
   constructor
   ·intro z;cases z
   ·rintro (z | ⟨_,z⟩) <;> omega
  ·rw [if_neg (fun z => h2 (beq_iff_eq.mp z)),decide_eq_true_iff]
   constructor
   ·intro z;exact .inr ⟨h,z⟩
   ·rintro (z | ⟨_,z⟩)
    ·omega
    ·exact z
 ·rw [if_neg (fun z => h (beq_iff_eq.mp z)),decide_eq_true_iff]
  constructor
  ·exact .inl
  ·rintro (z | ⟨z,_⟩)
   ·exact z
   ·exact absurd z h
theorem pLt_tr {x p m : Int × Int} (h1 : ¬ pLt x p = true) (h2 : ¬ pLt p m = true) : ¬ pLt x m = true := by
 rw [pLt_iff] at h1 h2 ⊢
 have a := Int.not_lt.mp fun q => h1 (.inl q)
 have b := Int.not_lt.mp fun q => h2 (.inl q)
 rintro (z | ⟨z,y⟩)
 ·exact Int.not_lt.mpr (Int.le_trans b a) z
 ·have e := Int.le_antisymm (z ▸ b) a
  exact Int.not_lt.mpr (Int.le_trans (Int.not_lt.mp fun q => h2 (.inr ⟨e.symm.trans z,q⟩)) (Int.not_lt.mp fun q => h1 (.inr ⟨e,q⟩))) y
theorem pLt_as {x p : Int × Int} (h : pLt x p = true) : ¬ pLt p x = true := by
 rw [pLt_iff] at h ⊢
 rcases h with h | ⟨h,g⟩
 ·rintro (z | ⟨z,_⟩)
  ·exact Int.lt_asymm h z
  ·exact Int.ne_of_gt h z
 ·rintro (z | ⟨_,z⟩)
  ·exact Int.ne_of_gt z h
  ·exact Int.lt_asymm g z
theorem pLt_ir (p : Int × Int) : ¬ pLt p p = true := fun h => pLt_as h h
theorem pMin_least : ∀ (r : List (Int × Int)) (p x : Int × Int),x ∈ p :: r -> ¬ pLt x (pMin p r) = true
 | [],p,x,h => by
  rw [List.mem_singleton.mp h]
  exact pLt_ir p
 | y :: r,p,x,h => by
  have e : pMin p (y :: r) = pMin (if pLt y p then y else p) r := rfl
  rw [e]
  by_cases hy : pLt y p = true
  ·rw [if_pos hy]
   have ih := pMin_least r y
   rcases List.mem_cons.mp h with rfl | h
   ·exact pLt_tr (pLt_as hy) (ih y (List.mem_cons_self ..))
   ·exact ih x h
  ·rw [if_neg hy]
   have ih := pMin_least r p
   rcases List.mem_cons.mp h with rfl | h
   ·exact ih x (List.mem_cons_self ..)
   ·rcases List.mem_cons.mp h with rfl | h
    ·exact pLt_tr hy (ih p (List.mem_cons_self ..))
    ·exact ih x (List.mem_cons_of_mem _ h)
theorem wish_iff {ws : List Str} {liked : Str} {start n : Nat} {p : Int × Int} : p ∈ wishes ws liked start n ↔ ∃ i j,i < n - start ∧ j < liked.cps.size ∧ wishB ws liked (start + i) j = true ∧ p = ((j : Int),-((start : Int) + 1 + (i : Int))) := by
 unfold wishes
 constructor
 ·intro h
  obtain ⟨i,hi,h⟩ := List.mem_flatMap.mp h
  obtain ⟨j,hj,h⟩ := List.mem_flatMap.mp h
  unfold wishIn at h
  split at h
  ·rename_i hb
   refine ⟨i,j,List.mem_range.mp hi,List.mem_range.mp hj,hb,?_⟩
   rw [List.mem_singleton.mp h,Int.mul_one]
  ·cases h
 ·rintro ⟨i,j,hi,hj,hb,rfl⟩
  refine List.mem_flatMap.mpr ⟨i,List.mem_range.mpr hi,List.mem_flatMap.mpr ⟨j,List.mem_range.mpr hj,?_⟩⟩
  unfold wishIn
  rw [if_pos hb,Int.mul_one]
  exact List.mem_singleton.mpr rfl
theorem signsS_len (liked : Str) : (signsS liked).length = liked.cps.size := by simp [signsS]
theorem signsS_get {liked : Str} {j : Nat} (h : j < liked.cps.size) : (signsS liked)[j]? = some (sgn liked j) := by
 unfold signsS sgn
 rw [List.getElem?_map,List.getElem?_eq_getElem (by simpa using h)]
 rfl
theorem find_down {n c : Nat} {p : Nat -> Bool} (h : (downs n).find? p = some c) : p c = true ∧ 0 < c ∧ c < n ∧ ∀ i,c < i -> i < n -> p i = false := by
 obtain ⟨hp,k,hk,e,hb⟩ := List.find?_eq_some_iff_getElem.mp h
 have h1 := downs_get (n := n) (j := k) (d := c) (by rw [List.getElem?_eq_getElem hk,e])
 refine ⟨hp,h1.2 ▸ Nat.sub_pos_of_lt h1.1,h1.2 ▸ dn_lt h1.1,fun i h2 h3 => ?_⟩
 have hj : n - 1 - i < k := dn_rev h1.1 (h1.2 ▸ h2) h3
 have := hb (n - 1 - i) hj
 have h4 := downs_get (n := n) (j := n - 1 - i) (d := (downs n)[n - 1 - i]) (List.getElem?_eq_getElem _)
 rw [h4.2,dn_dn h3] at this
 simpa using this
theorem find_down_none {n : Nat} {p : Nat -> Bool} (h : (downs n).find? p = none) : ∀ i,0 < i -> i < n -> p i = false := by
 intro i h1 h2
 have := List.find?_eq_none.mp h i (by
  unfold downs
  refine List.mem_map.mpr ⟨n - 1 - i,List.mem_range.mpr (Nat.sub_lt (Nat.sub_pos_of_lt (Nat.lt_of_le_of_lt h1 h2)) h1),dn_dn h2⟩)
 simpa using this
theorem choose_some {ps : List (Str × Str)} {liked : Str} {c : Nat} (h : chooseCut ps liked = some c) : ∃ j,j < liked.cps.size ∧ hitP ps (sgn liked j) c = true ∧ 0 < c ∧ c < ps.length ∧
  (∀ i,c < i -> i < ps.length -> hitP ps (sgn liked j) i = false) ∧ ∀ j',j' < j -> ∀ i,0 < i -> i < ps.length -> hitP ps (sgn liked j') i = false := by
 revert ps liked c;intros ps liked c h
 obtain @⟨l1,a,l2,e,hf,hn⟩ := List.findSome?_eq_some_iff.mp h
 have hlen : l1.length < liked.cps.size := by
  have := signsS_len liked
  rw [e] at this
  simp at this;omega
 have ha : a = sgn liked l1.length := by
  have := signsS_get hlen
  rw [e,List.getElem?_append_right (Nat.le_refl _),Nat.sub_self] at this
  exact Option.some.inj this
 subst ha
 obtain @⟨h1,h2,h3,h4⟩ := find_down hf
 refine ⟨l1.length,hlen,h1,h2,h3,h4,fun j' hj i hi1 hi2 => ?_⟩
 have hm : sgn liked j' ∈ l1 := by
  have := signsS_get (liked := liked) (j := j') (by omega)
  rw [e,List.getElem?_append_left hj] at this
  exact List.mem_of_getElem? this
 exact find_down_none (hn _ hm) i hi1 hi2
theorem choose_none {ps : List (Str × Str)} {liked : Str} (h : chooseCut ps liked = none) : ∀ j,j < liked.cps.size -> ∀ i,0 < i -> i < ps.length -> hitP ps (sgn liked j) i = false := by
 intro j hj i h1 h2
 have := List.findSome?_eq_none_iff.mp h (sgn liked j) (List.mem_of_getElem? (signsS_get hj))
 exact find_down_none this i h1 h2
theorem cut_some {ws : List Str} {liked : Str} {start n c : Nat} {ps : List (Str × Str)} (hps : ps.length = n - start + 1) (heq : ∀ i j,i < n - start -> hitP ps (sgn liked j) (i + 1) = wishB ws liked (start + i) j) (h : chooseCut ps liked = some c) :
  0 < c ∧ c ≤ n - start ∧ ∃ p r,wishes ws liked start n = p :: r ∧ (-(pMin p r).2).toNat = start + c := by
 revert ws liked start n c ps;intros ws liked start n c ps hps heq h
 obtain ⟨j,hj,h1,h2,h3,h4,h5⟩ := choose_some h
 have hc1 : c ≤ n - start := Nat.le_of_lt_succ (Nat.lt_of_lt_of_eq h3 hps)
 refine ⟨h2,hc1,?_⟩
 have hc : ((j : Int),-((start : Int) + 1 + ((c - 1 : Nat) : Int))) ∈ wishes ws liked start n := by
  have hc2 : c - 1 < n - start := Nat.lt_of_lt_of_le (Nat.sub_lt h2 Nat.one_pos) hc1
  refine wish_iff.mpr ⟨c - 1,j,hc2,hj,?_,rfl⟩
  rw [← heq _ _ hc2,Nat.sub_add_cancel h2];exact h1
 cases hw : wishes ws liked start n with
 | nil => rw [hw] at hc;cases hc
 | cons p r =>
  refine ⟨p,r,rfl,?_⟩
  have hm := pMin_mem p r
  rw [← hw] at hm
  obtain ⟨i',j',g1,g2,g3,g4⟩ := wish_iff.mp hm
  rw [hw] at hc
  have hl := pMin_least r p _ hc
  rw [pLt_iff,g4] at hl
  have hl : ¬ ((j : Int) < (j' : Int) ∨ ((j : Int) = (j' : Int) ∧ -((start : Int) + 1 + ((c - 1 : Nat) : Int)) < -((start : Int) + 1 + (i' : Int)))) := hl
  rw [← heq _ _ g1] at g3
  rw [g4]
  show (-(-((start : Int) + 1 + (i' : Int)))).toNat = _
  have hjj : ¬ j' < j := fun z => by
   have := h5 j' z (i' + 1) (Nat.succ_pos i') (Nat.lt_of_lt_of_eq (Nat.succ_lt_succ g1) hps.symm)
   rw [this] at g3;cases g3
  have ej : j' = j := Nat.le_antisymm (Nat.le_of_not_lt fun z => hl (.inl (Int.ofNat_lt.mpr z))) (Nat.le_of_not_lt hjj)
  subst ej
  have hii : ¬ c < i' + 1 := fun z => by
   have := h4 (i' + 1) z (Nat.lt_of_lt_of_eq (Nat.succ_lt_succ g1) hps.symm)
   rw [this] at g3;cases g3
  have hl2 : c ≤ i' + 1 := Nat.le_add_of_sub_le (Int.ofNat_le.mp (Int.le_of_add_le_add_left (Int.neg_le_neg_iff.mp (Int.not_lt.mp fun z => hl (.inr ⟨rfl,z⟩)))))
  rw [Int.neg_neg,Nat.le_antisymm hl2 (Nat.le_of_not_lt hii)]
  exact Nat.add_right_comm start 1 i'
theorem cut_none {ws : List Str} {liked : Str} {start n : Nat} {ps : List (Str × Str)} (hps : ps.length = n - start + 1) (heq : ∀ i j,i < n - start -> hitP ps (sgn liked j) (i + 1) = wishB ws liked (start + i) j) (h : chooseCut ps liked = none) : wishes ws liked start n = [] := by
 have hn := choose_none h
 apply List.eq_nil_iff_forall_not_mem.mpr
 intro p hp
 obtain ⟨i,j,g1,g2,g3,_⟩ := wish_iff.mp hp
 rw [← heq _ _ g1,hn j g2 (i + 1) (by omega) (by omega)] at g3
 cases g3
noncomputable def fwsOf (bare : Int) (i : Nat) : Str := if decide ((i : Int) < bare) then ofString "" else ofString " "
noncomputable def ptOf (ws : List Str) (bare : Int) (j : Nat) : Str × Str := (fwsOf bare j,wordAt ws j)
noncomputable def ptsOf (ws : List Str) (bare : Int) (a m : Nat) : List (Str × Str) := (List.range' a m).map (ptOf ws bare)
theorem fws_len (b : Int) (j : Nat) : ((fwsOf b j).length : Int) = if (j : Int) < b then 0 else 1 := by
 unfold fwsOf
 by_cases h : (j : Int) < b
 ·rw [if_pos (decide_eq_true h),if_pos h];rfl
 ·rw [if_neg (by rw [decide_eq_true_iff];exact h),if_neg h];rfl
theorem fws_pos {b : Int} {j : Nat} (hb : b = 0 ∨ b = 1) (hj : 0 < j) : fwsOf b j = ofString " " := by
 unfold fwsOf
 rw [if_neg (by rw [decide_eq_true_iff];omega)]
theorem fws_zero (j : Nat) : fwsOf 0 j = ofString " " := by
 unfold fwsOf
 rw [if_neg (by rw [decide_eq_true_iff];omega)]
theorem pts_len (ws : List Str) (b : Int) (a m : Nat) : (ptsOf ws b a m).length = m := by simp [ptsOf]
theorem pts_snoc (ws : List Str) (b : Int) (a m : Nat) : ptsOf ws b a (m + 1) = ptsOf ws b a m ++ [ptOf ws b (a + m)] := by
 unfold ptsOf
 rw [List.range'_concat,List.map_append,Nat.one_mul];rfl
theorem pts_get {ws : List Str} {b : Int} {a m i : Nat} (h : i < m) : prt (ptsOf ws b a m) i = ptOf ws b (a + i) := by
 unfold prt ptsOf
 rw [List.getElem?_map,List.getElem?_range' (by omega),Nat.one_mul];rfl
theorem word_len {ws : List Str} (hw : ∀ x ∈ ws,x.length = 10) {j : Nat} (h : j < ws.length) : (wordAt ws j).length = 10 := by
 unfold wordAt
 rw [List.getElem?_eq_getElem h]
 exact hw _ (List.getElem_mem _)
theorem pts_sum {ws : List Str} {b : Int} (hw : ∀ x ∈ ws,x.length = 10) (hb : b = 0 ∨ b = 1) (a : Nat) : ∀ m,a + m ≤ ws.length -> ((ptsOf ws b a m).map partLen).sum = 11 * (m : Int) - (if a = 0 ∧ 0 < m then b else 0)
 | 0,_ => by
  rw [if_neg (by omega)];rfl
 | m + 1,h => by
  rw [pts_snoc,List.map_append,List.sum_append,pts_sum hw hb a m (by omega)]
  have e : partLen (ptOf ws b (a + m)) = (if ((a + m : Nat) : Int) < b then 0 else 1) + 10 := by
   unfold partLen ptOf
   rw [word_len hw (by omega),fws_len];rfl
  simp only [List.map_cons,List.map_nil,List.sum_cons,List.sum_nil,e]
  split <;> split <;> split <;> omega
theorem ls_joinC (sep x : Str) : ∀ r : List Str,ls (Txt.join sep (x :: r)) = ls x ++ r.flatMap fun y => ls sep ++ ls y
 | [] => by rw [txt_join];simp [Str.join]
 | y :: r => by
  have ih := ls_joinC sep y r
  rw [txt_join] at ih ⊢
  have e : Str.join sep (x :: y :: r) = x ++ sep ++ Str.join sep (y :: r) := rfl
  rw [e,ls_append,ls_append,ih,List.flatMap_cons]
  simp
theorem slice_words {ws : List Str} {a m : Nat} (h : a + m ≤ ws.length) : (ws.drop a).take m = (List.range' a m).map (wordAt ws) := by
 apply List.ext_getElem?
 intro i
 by_cases hi : i < m
 ·rw [List.getElem?_take_of_lt hi,List.getElem?_drop,List.getElem?_map,List.getElem?_range' (by omega),Nat.one_mul]
  rw [List.getElem?_eq_getElem (by omega),Option.map_some]
  unfold wordAt
  rw [List.getElem?_eq_getElem (by omega)];rfl
 ·rw [List.getElem?_take_eq_none (by omega),List.getElem?_eq_none (by simp;omega)]
theorem line_text {ws : List Str} {b : Int} (hb : b = 0 ∨ b = 1) {a m : Nat} (hm : 0 < m) (h : a + m ≤ ws.length) {σ : FS} (hσ : σ.parts = ptsOf ws b a m) : σ.text = lineOf ws a (a + m) b := by
 revert ws b a m σ;intros ws b hb a m hm h σ hσ
 obtain @⟨k,rfl⟩ : ∃ k,m = k + 1 := ⟨m - 1,(Nat.sub_add_cancel hm).symm⟩
 apply ls_inj
 unfold lineOf
 rw [ls_text,hσ,ls_append,Nat.add_sub_cancel_left,slice_words h]
 unfold ptsOf
 rw [List.range'_succ,List.map_cons,List.map_cons,List.flatMap_cons,ls_joinC]
 have e0 : (if ((a : Int) == 0) && ((b == 1) && true) then ofString "" else ofString " ") = fwsOf b a := by
  unfold fwsOf
  by_cases q : (a : Int) < b
  ·have h1 : (a : Int) = 0 := by omega
   have h2 : b = 1 := by omega
   rw [if_pos (decide_eq_true q),if_pos (by rw [h1,h2];rfl)]
  ·have h3 : ¬ (((a : Int) == 0) && ((b == 1) && true)) = true := by
    simp only [Bool.and_true,Bool.and_eq_true,beq_iff_eq]
    omega
   rw [if_neg h3,if_neg (fun z => q (of_decide_eq_true z))]
 rw [e0,List.flatMap_map,List.flatMap_map]
 show (ls (fwsOf b a) ++ ls (wordAt ws a)) ++ _ = _
 rw [List.append_assoc]
 congr 2
 have key : ∀ l : List Nat,(∀ j ∈ l,0 < j) -> (l.flatMap fun j => ls (ptOf ws b j).1 ++ ls (ptOf ws b j).2) = l.flatMap fun j => ls (ofString " ") ++ ls (wordAt ws j) := fun l => by
  induction l with
  | nil => intro _;rfl
  | cons j r ih =>
   intro hl
   rw [List.flatMap_cons,List.flatMap_cons,ih fun q hq => hl q (List.mem_cons_of_mem _ hq)]
   show ls (fwsOf b j) ++ ls (wordAt ws j) ++ _ = _
   rw [fws_pos hb (hl j (List.mem_cons_self ..))]
 exact key _ fun j hj => by
  have hj' : a + 1 ≤ j := (List.mem_range'_1.mp hj).1
  omega
structure Sim (ws : List Str) (b0 : Int) (σ : FS) (ρ : RS) (k : Nat) : Prop where
 lines : σ.lines = ρ.rows
 init : σ.init = ρ.head
 parts : σ.parts = ptsOf ws ρ.bare ρ.start (k - ρ.start)
 st : ρ.start ≤ k
 st1 : 0 < k -> ρ.start < k
 bare : ρ.bare = 0 ∨ ρ.bare = 1
 b0 : k = 0 -> ρ.bare = b0
 h0 : 0 ≤ ρ.head
 hs : 0 < ρ.head -> ρ.start = 0
theorem Sim.pushed {ws : List Str} {b0 : Int} {σ : FS} {ρ : RS} {k : Nat} (S : Sim ws b0 σ ρ k) (hb0 : b0 = 0 ∨ b0 = 1) : (σ.push (ptOf ws b0 k)).parts = ptsOf ws ρ.bare ρ.start (k + 1 - ρ.start) := by
 have e : ptOf ws b0 k = ptOf ws ρ.bare k := by
  unfold ptOf
  by_cases h : k = 0
  ·rw [S.b0 h]
  ·rw [fws_pos hb0 (Nat.pos_of_ne_zero h),fws_pos S.bare (Nat.pos_of_ne_zero h)]
 have := S.st
 show σ.parts ++ [_] = _
 rw [e,S.parts,Nat.sub_add_comm this,pts_snoc,Nat.add_sub_of_le this]
theorem hit_wish {ws : List Str} (hw : ∀ x ∈ ws,x.length = 10) {b : Int} (hb : b = 0 ∨ b = 1) {liked : Str} {a m : Nat} (hm : a + m ≤ ws.length) : ∀ i j,i + 1 < m -> hitP (ptsOf ws b a m) (sgn liked j) (i + 1) = wishB ws liked (a + i) j := by
 intro i j hi
 have e1 : hitW (ptsOf ws b a m) (sgn liked j) (i + 1) = (ofString " " == sgn liked j) := by
  unfold hitW
  rw [pts_get hi]
  unfold ptOf
  rw [fws_pos hb (by omega)]
  have z1 : ((ofString " ").length != 0) = true := by decide +kernel
  have z2 : Txt.item (ofString " ") 0 = ofString " " := by decide +kernel
  rw [z1,z2,Bool.and_true,Bool.true_and]
 have hl := word_len hw (j := a + i) (by omega)
 have e2 : hitQ (ptsOf ws b a m) (sgn liked j) (i + 1) = (Txt.item (wordAt ws (a + i)) 9 == sgn liked j) := by
  unfold hitQ
  rw [Nat.add_sub_cancel,pts_get (by omega)]
  unfold ptOf
  have z1 : ((wordAt ws (a + i)).length != 0) = true := by rw [hl];rfl
  have z2 : Txt.item (wordAt ws (a + i)) (-1) = Txt.item (wordAt ws (a + i)) 9 := by
   unfold Txt.item Txt.charAt
   rw [hl];rfl
  rw [z1,z2,Bool.and_true,Bool.true_and]
 unfold hitP wishB
 rw [e1,e2,Bool.or_false]
 congr 1
 by_cases h : sgn liked j = ofString " "
 ·rw [h];decide +kernel
 ·have h1 : (sgn liked j == ofString " ") = false := by rw [beq_eq_false_iff_ne];exact h
  have h2 : (ofString " " == sgn liked j) = false := by rw [beq_eq_false_iff_ne];exact fun q => h q.symm
  rw [h1,h2,Bool.and_false]
theorem Sim.step {ws : List Str} {b0 : Int} {σ : FS} {ρ : RS} {k : Nat} (S : Sim ws b0 σ ρ k) (hb0 : b0 = 0 ∨ b0 = 1) (hw : ∀ x ∈ ws,x.length = 10) (hk : k < ws.length) (width : Int) (liked : Str) :
  Sim ws b0 (σ.chunk width liked (ptOf ws b0 k)) (rowsTurn ws liked width ρ k) (k + 1) := by
 revert ws b0 σ ρ k width liked;intros ws b0 σ ρ k S hb0 hw hk width liked
 have hst := S.st
 have hp := S.pushed hb0
 have hplen : (σ.push (ptOf ws b0 k)).parts.length = k - ρ.start + 1 := by rw [hp,pts_len];exact Nat.sub_add_comm hst
 have hlen : (σ.push (ptOf ws b0 k)).len = filledOf k ρ := by
  have hm : ρ.start + (k + 1 - ρ.start) ≤ ws.length := by rw [Nat.add_sub_of_le (Nat.le_succ_of_le hst)];exact hk
  unfold FS.len filledOf
  rw [hp,pts_sum hw S.bare _ _ hm]
  show σ.init + _ = _
  rw [S.init]
  by_cases h : ρ.start = 0
  ·have h1 : ((ρ.start : Int) == 0) = true := by rw [h];rfl
   rw [if_pos ⟨h,by omega⟩,h1,if_pos rfl];omega
  ·have h1 : ((ρ.start : Int) == 0) = false := by rw [beq_eq_false_iff_ne];exact fun z => h (Int.ofNat.inj z)
   rw [if_neg (fun z => h z.1),h1]
   simp only [Bool.false_eq_true,if_false]
   omega
 have keep : Sim ws b0 (σ.push (ptOf ws b0 k)) ρ (k + 1) := ⟨S.lines,S.init,hp,Nat.le_succ_of_le hst,fun _ => Nat.lt_succ_of_le hst,S.bare,fun z => absurd z (Nat.succ_ne_zero k),S.h0,S.hs⟩
 have heq : ∀ i j,i < k - ρ.start -> hitP (σ.push (ptOf ws b0 k)).parts (sgn liked j) (i + 1) = wishB ws liked (ρ.start + i) j := fun i j hi => by
  rw [hp]
  exact hit_wish hw S.bare (by omega) i j (by omega)
 unfold FS.chunk rowsTurn
 rw [hlen]
 by_cases hf : width < filledOf k ρ
 ·rw [if_pos hf,if_pos hf]
  cases hc : chooseCut (σ.push (ptOf ws b0 k)).parts liked with
  | some c =>
   obtain ⟨c1,c2,p,r,ew,ecut⟩ := cut_some hplen heq hc
   have hc2 : ρ.start + c ≤ k := Nat.add_le_of_le_sub' hst c2
   rw [ew]
   simp only []
   rw [ecut]
   have htext : ((σ.push (ptOf ws b0 k)).taken c).text = lineOf ws ρ.start (ρ.start + c) ρ.bare := by
    refine line_text S.bare (m := c) c1 (Nat.le_trans hc2 (Nat.le_of_lt hk)) ?_
    show (σ.push (ptOf ws b0 k)).parts.take c = _
    rw [hp]
    unfold ptsOf
    rw [← List.map_take]
    congr 1
    apply List.ext_getElem?
    intros i
    by_cases hi : i < c
    ·rw [List.getElem?_take_of_lt hi,List.getElem?_range' (Nat.lt_of_lt_of_le hi (Nat.le_trans c2 (Nat.sub_le_sub_right (Nat.le_succ k) _))),List.getElem?_range' hi]
    ·rw [List.getElem?_take_eq_none (Nat.le_of_not_lt hi),List.getElem?_eq_none (by rw [List.length_range'];exact Nat.le_of_not_lt hi)]
   refine ⟨?_,rfl,?_,?_,fun _ => ?_,S.bare,fun z => absurd z (Nat.succ_ne_zero k),Int.le_refl 0,fun z => absurd z (Int.lt_irrefl 0)⟩
   ·show σ.lines ++ [_] = ρ.rows ++ [_]
    rw [S.lines,htext]
   ·show (σ.push (ptOf ws b0 k)).parts.drop c = ptsOf ws ρ.bare (ρ.start + c) (k + 1 - (ρ.start + c))
    rw [hp]
    unfold ptsOf
    rw [← List.map_drop,List.drop_range']
    congr 1
    rw [Nat.mul_one]
    congr 1
    omega
   ·exact Nat.le_succ_of_le hc2
   ·exact Nat.lt_succ_of_le hc2
  | none =>
   rw [cut_none hplen heq hc]
   simp only []
   rw [S.init]
   by_cases hh : 0 < ρ.head
   ·rw [if_pos hh,if_pos hh]
    have hs0 := S.hs hh
    have htext : σ.again.text = if 0 < k then lineOf ws 0 k ρ.bare else ofString "" := by
     by_cases hk0 : 0 < k
     ·rw [if_pos hk0]
      have hne : σ.parts ≠ [] := by
       rw [S.parts]
       intro z
       have := congrArg List.length z
       rw [pts_len] at this
       simp at this;omega
      rw [again_eq hne]
      have := line_text (ws := ws) S.bare (a := 0) (m := k) hk0 (by rw [Nat.zero_add];exact Nat.le_of_lt hk) (σ := σ) (by rw [S.parts,hs0];rfl)
      rw [this,Nat.zero_add]
     ·rw [if_neg hk0]
      have h0 : σ.parts = [] := by
       rw [S.parts,show k - ρ.start = 0 from Nat.sub_eq_zero_iff_le.mpr (Nat.le_trans (Nat.le_of_not_lt hk0) (Nat.zero_le _))];rfl
      have e : σ.again.parts = [(ofString "",ofString "")] := by
       show σ.parts.dropLast ++ [σ.top] = _
       unfold FS.top
       rw [h0];rfl
      apply ls_inj
      rw [ls_text,e];rfl
    refine ⟨?_,rfl,?_,Nat.le_succ k,fun _ => Nat.lt_succ_self k,.inl rfl,fun z => absurd z (Nat.succ_ne_zero k),Int.le_refl 0,fun z => absurd z (Int.lt_irrefl 0)⟩
    ·show σ.lines ++ [_] = ρ.rows ++ [_]
     rw [S.lines,htext]
    ·show [] ++ [_] = ptsOf ws 0 k (k + 1 - k)
     rw [show k + 1 - k = 0 + 1 from Nat.add_sub_cancel_left k 1,pts_snoc]
     show [(_ : Str × Str)] = [] ++ [_]
     rw [List.nil_append]
     congr 1
     unfold ptOf
     rw [Nat.add_zero,fws_zero]
     congr 1
     show (if !((fwsOf b0 k).length != 0) then ofString " " else fwsOf b0 k) = _
     unfold fwsOf
     split <;> rfl
   ·rw [if_neg hh,if_neg hh]
    exact keep
 ·rw [if_neg hf,if_neg hf]
  exact keep
noncomputable def sR (r : Int) : Nat := if r = 1 then 114 else 45
noncomputable def sW (r : Int) : Nat := if r = 1 then 119 else 45
noncomputable def sX (x m : Int) : Nat := if m = 1 then (if x = 1 then 115 else 83) else (if x = 1 then 120 else 45)
noncomputable def sT (x m : Int) : Nat := if m = 1 then (if x = 1 then 116 else 84) else (if x = 1 then 120 else 45)
noncomputable def s1 (c : Nat) : Str := ⟨#[c]⟩
noncomputable def typS (t : Int) : Str := Txt.item (ofString "?pc?d?b?-?l?s???") t
noncomputable def nine (b : Int) : List Nat := [sR (b / 256 % 2),sW (b / 128 % 2),sX (b / 64 % 2) (b / 2048 % 2),sR (b / 32 % 2),sW (b / 16 % 2),sX (b / 8 % 2) (b / 1024 % 2),sR (b / 4 % 2),sW (b / 2 % 2),sT (b % 2) (b / 512 % 2)]
theorem mod2 (x : Int) : x % 2 = 0 ∨ x % 2 = 1 := by omega
theorem itR : ∀ {k : Int},k = 0 ∨ k = 1 -> Txt.item (ofString "-r") k = s1 (sR k)
 | _,.inl rfl => by decide +kernel
 | _,.inr rfl => by decide +kernel
theorem itW : ∀ {k : Int},k = 0 ∨ k = 1 -> Txt.item (ofString "-w") k = s1 (sW k)
 | _,.inl rfl => by decide +kernel
 | _,.inr rfl => by decide +kernel
theorem itX : ∀ {k m : Int},k = 0 ∨ k = 1 -> m = 0 ∨ m = 1 -> Txt.item (if m == 1 then ofString "Ss" else ofString "-x") k = s1 (sX k m)
 | _,_,.inl rfl,.inl rfl => by decide +kernel
 | _,_,.inl rfl,.inr rfl => by decide +kernel
 | _,_,.inr rfl,.inl rfl => by decide +kernel
 | _,_,.inr rfl,.inr rfl => by decide +kernel
theorem itT : ∀ {k m : Int},k = 0 ∨ k = 1 -> m = 0 ∨ m = 1 -> Txt.item (if m == 1 then ofString "Tt" else ofString "-x") k = s1 (sT k m)
 | _,_,.inl rfl,.inl rfl => by decide +kernel
 | _,_,.inl rfl,.inr rfl => by decide +kernel
 | _,_,.inr rfl,.inl rfl => by decide +kernel
 | _,_,.inr rfl,.inr rfl => by decide +kernel
theorem d4 (x : Int) : x % 8 / 4 = x / 4 % 2 := by omega
theorem d2 (x : Int) : x % 8 / 2 % 2 = x / 2 % 2 := by omega
theorem d1 (x : Int) : x % 8 % 2 = x % 2 := Int.emod_emod_of_dvd x ⟨4,rfl⟩
theorem dd {b m k n : Int} (hm : 0 ≤ m) (h : m * k = n) : b / m / k = b / n := by rw [Int.ediv_ediv_of_nonneg hm,h]
theorem turn2 (b : Int) (x : Str) : ltTurn b 2 x = x ++ s1 (sR (b / 256 % 2)) ++ s1 (sW (b / 128 % 2)) ++ s1 (sX (b / 64 % 2) (b / 2048 % 2)) := by
 have e : ltDigit b 2 = b / 64 % 8 := rfl
 have em : ltMarks b 2 = if b / 512 / 4 % 2 == 1 then ofString "Ss" else ofString "-x" := rfl
 unfold ltTurn
 rw [e,em,d4,d2,d1,dd (m := 64) (k := 4) (n := 256) (by decide) rfl,dd (m := 64) (k := 2) (n := 128) (by decide) rfl,dd (m := 512) (k := 4) (n := 2048) (by decide) rfl,itR (mod2 _),itW (mod2 _),itX (mod2 _) (mod2 _)]
theorem turn1 (b : Int) (x : Str) : ltTurn b 1 x = x ++ s1 (sR (b / 32 % 2)) ++ s1 (sW (b / 16 % 2)) ++ s1 (sX (b / 8 % 2) (b / 1024 % 2)) := by
 have e : ltDigit b 1 = b / 8 % 8 := rfl
 have em : ltMarks b 1 = if b / 512 / 2 % 2 == 1 then ofString "Ss" else ofString "-x" := rfl
 unfold ltTurn
 rw [e,em,d4,d2,d1,dd (m := 8) (k := 4) (n := 32) (by decide) rfl,dd (m := 8) (k := 2) (n := 16) (by decide) rfl,dd (m := 512) (k := 2) (n := 1024) (by decide) rfl,itR (mod2 _),itW (mod2 _),itX (mod2 _) (mod2 _)]
theorem turn0 (b : Int) (x : Str) : ltTurn b 0 x = x ++ s1 (sR (b / 4 % 2)) ++ s1 (sW (b / 2 % 2)) ++ s1 (sT (b % 2) (b / 512 % 2)) := by
 have e : ltDigit b 0 = b / 1 % 8 := rfl
 have em : ltMarks b 0 = if b / 512 / 1 % 2 == 1 then ofString "Tt" else ofString "-x" := rfl
 unfold ltTurn
 rw [e,em,Int.ediv_one,Int.ediv_one,d4,d2,d1,itR (mod2 _),itW (mod2 _),itT (mod2 _) (mod2 _)]
theorem listing_nine (b : Int) : listing b = typS (b / 4096) ++ s1 (sR (b / 256 % 2)) ++ s1 (sW (b / 128 % 2)) ++ s1 (sX (b / 64 % 2) (b / 2048 % 2)) ++ s1 (sR (b / 32 % 2)) ++ s1 (sW (b / 16 % 2)) ++ s1 (sX (b / 8 % 2) (b / 1024 % 2))
  ++ s1 (sR (b / 4 % 2)) ++ s1 (sW (b / 2 % 2)) ++ s1 (sT (b % 2) (b / 512 % 2)) := by
 show ltTurn b 0 (ltTurn b 1 (ltTurn b 2 (typS (b / 4096)))) = _
 rw [turn2,turn1,turn0]
theorem and_two (n i : Nat) : n &&& 2 ^ i = if n.testBit i then 2 ^ i else 0 := by
 apply Nat.eq_of_testBit_eq
 intro j
 rw [Nat.testBit_and,Nat.testBit_two_pow]
 by_cases h : i = j
 ·subst h
  cases n.testBit i <;> simp
 ·cases n.testBit i <;> simp [h,Nat.testBit_two_pow]
theorem tb {n i : Nat} (h : n / 2 ^ i % 2 = 1 ∨ n / 2 ^ i % 2 = 0) : (n / 2 ^ i % 2 = 1 ∧ n &&& 2 ^ i = 2 ^ i) ∨ (n / 2 ^ i % 2 = 0 ∧ n &&& 2 ^ i = 0) := by
 rcases h with h | h
 ·refine .inl ⟨h,?_⟩
  rw [and_two,Nat.testBit_eq_decide_div_mod_eq,h];simp
 ·refine .inr ⟨h,?_⟩
  rw [and_two,Nat.testBit_eq_decide_div_mod_eq,h];simp
theorem band {n m : Nat} : Builtin.bitAnd (n : Int) (m : Int) = ((n &&& m : Nat) : Int) := by
 unfold Builtin.bitAnd
 rw [decide_eq_true (Int.natCast_nonneg n),decide_eq_true (Int.natCast_nonneg m)];rfl
theorem tb2 (n i : Nat) : (n / 2 ^ i % 2 = 1 ∧ n &&& 2 ^ i = 2 ^ i) ∨ (n / 2 ^ i % 2 = 0 ∧ n &&& 2 ^ i = 0) := tb (by omega)
theorem one_hit {b : Int} (h0 : 0 ≤ b) (i j : Nat) (hj : 0 < j) (x : Str) (d : Str) (hx : d = ofString "-") : fmPick b j [(((2 ^ i : Nat) : Int),x)] = if b / ((2 ^ i : Nat) : Int) % 2 = 1 then x else d := by
 revert b i j x d;intros b h0 i j hj x d hx
 obtain @⟨n,rfl⟩ := Int.eq_ofNat_of_zero_le h0
 have hj' : ((j : Int) == 0) = false := by rw [beq_eq_false_iff_ne];omega
 subst hx
 rcases tb2 n i with ⟨h1,h2⟩ | ⟨h1,h2⟩
 ·have e : (n : Int) / ((2 ^ i : Nat) : Int) % 2 = 1 := by exact_mod_cast h1
  unfold fmPick fmHit
  rw [e]
  simp only [List.find?_cons,hj',if_false,band,h2]
  simp
 ·have e : (n : Int) / ((2 ^ i : Nat) : Int) % 2 = 0 := by exact_mod_cast h1
  have hp : 0 < 2 ^ i := Nat.two_pow_pos i
  have hz : (((0 : Nat) : Int) == ((2 ^ i : Nat) : Int)) = false := by rw [beq_eq_false_iff_ne];omega
  unfold fmPick fmHit
  rw [e]
  simp only [List.find?_cons,hj',band,h2,hz]
  simp
theorem two_hit {b : Int} (h0 : 0 ≤ b) (i k j : Nat) (hj : 0 < j) (hik : 2 ^ i ||| 2 ^ k ≠ 2 ^ i ∧ 2 ^ i ||| 2 ^ k ≠ 2 ^ k ∧ 2 ^ i ||| 2 ^ k ≠ 0) (both hi lo : Str) : fmPick b j [(((2 ^ i ||| 2 ^ k : Nat) : Int),both),(((2 ^ k : Nat) : Int),hi),(((2 ^ i : Nat) : Int),lo)]
  = if b / ((2 ^ k : Nat) : Int) % 2 = 1 then (if b / ((2 ^ i : Nat) : Int) % 2 = 1 then both else hi) else (if b / ((2 ^ i : Nat) : Int) % 2 = 1 then lo else ofString "-") := by
 revert b i k j both hi lo;intros b h0 i k j hj hik both hi lo
 obtain @⟨n,rfl⟩ := Int.eq_ofNat_of_zero_le h0
 have hj' : ((j : Int) == 0) = false := by rw [beq_eq_false_iff_ne];omega
 obtain @⟨g1,g2,g3⟩ := hik
 have hpi : 0 < 2 ^ i := Nat.two_pow_pos i
 have hpk : 0 < 2 ^ k := Nat.two_pow_pos k
 unfold fmPick fmHit
 rcases tb2 n i with ⟨h1,h2⟩ | ⟨h1,h2⟩ <;> rcases tb2 n k with ⟨h3,h4⟩ | ⟨h3,h4⟩
 ·have e1 : (n : Int) / ((2 ^ i : Nat) : Int) % 2 = 1 := by exact_mod_cast h1
  have e2 : (n : Int) / ((2 ^ k : Nat) : Int) % 2 = 1 := by exact_mod_cast h3
  rw [e1,e2]
  simp only [List.find?_cons,hj',band,Nat.and_or_distrib_left,h2,h4]
  simp
 ·have e1 : (n : Int) / ((2 ^ i : Nat) : Int) % 2 = 1 := by exact_mod_cast h1
  have e2 : (n : Int) / ((2 ^ k : Nat) : Int) % 2 = 0 := by exact_mod_cast h3
  have z1 : (((2 ^ i ||| 0 : Nat) : Int) == ((2 ^ i ||| 2 ^ k : Nat) : Int)) = false := by rw [beq_eq_false_iff_ne];rw [Nat.or_zero];exact fun q => g1 (by exact_mod_cast q.symm)
  have z2 : (((0 : Nat) : Int) == ((2 ^ k : Nat) : Int)) = false := by rw [beq_eq_false_iff_ne];omega
  rw [e1,e2]
  simp only [List.find?_cons,hj',band,Nat.and_or_distrib_left,h2,h4,z1,z2]
  simp
 ·have e1 : (n : Int) / ((2 ^ i : Nat) : Int) % 2 = 0 := by exact_mod_cast h1
  have e2 : (n : Int) / ((2 ^ k : Nat) : Int) % 2 = 1 := by exact_mod_cast h3
  have z1 : (((0 ||| 2 ^ k : Nat) : Int) == ((2 ^ i ||| 2 ^ k : Nat) : Int)) = false := by rw [beq_eq_false_iff_ne];rw [Nat.zero_or];exact fun q => g2 (by exact_mod_cast q.symm)
  rw [e1,e2]
  simp only [List.find?_cons,hj',band,Nat.and_or_distrib_left,h2,h4,z1]
  simp
 ·have e1 : (n : Int) / ((2 ^ i : Nat) : Int) % 2 = 0 := by exact_mod_cast h1
  have e2 : (n : Int) / ((2 ^ k : Nat) : Int) % 2 = 0 := by exact_mod_cast h3
  have z1 : (((0 ||| 0 : Nat) : Int) == ((2 ^ i ||| 2 ^ k : Nat) : Int)) = false := by rw [beq_eq_false_iff_ne];exact fun q => g3 (by exact_mod_cast q.symm)
  have z2 : (((0 : Nat) : Int) == ((2 ^ k : Nat) : Int)) = false := by rw [beq_eq_false_iff_ne];omega
  have z3 : (((0 : Nat) : Int) == ((2 ^ i : Nat) : Int)) = false := by rw [beq_eq_false_iff_ne];omega
  rw [e1,e2]
  simp only [List.find?_cons,hj',band,Nat.and_or_distrib_left,h2,h4,z1,z2,z3]
  simp
theorem s1R {b : Int} : (if b = 1 then ofString "r" else ofString "-") = s1 (sR b) := by unfold sR;split <;> decide +kernel
theorem s1W {b : Int} : (if b = 1 then ofString "w" else ofString "-") = s1 (sW b) := by unfold sW;split <;> decide +kernel
theorem s1X {x m : Int} : (if m = 1 then (if x = 1 then ofString "s" else ofString "S") else (if x = 1 then ofString "x" else ofString "-")) = s1 (sX x m) := by unfold sX;split <;> split <;> decide +kernel
theorem s1T {x m : Int} : (if m = 1 then (if x = 1 then ofString "t" else ofString "T") else (if x = 1 then ofString "x" else ofString "-")) = s1 (sT x m) := by unfold sT;split <;> split <;> decide +kernel
noncomputable def pick0 (y : Int) : Str := match (fmTables[0]?.getD []).find? (fun p => y == p.1) with
 | some p => p.2
 | none => ofString "?"
theorem pick0_typ : ∀ t : Fin 16,pick0 ((t.val : Int) * 4096) = typS (t.val : Int) := by decide +kernel
theorem fm0 {b : Int} (h0 : 0 ≤ b) (h1 : b < 65536) : fmPick b 0 (fmTables[0]?.getD []) = typS (b / 4096) := by
 have e : fmPick b 0 (fmTables[0]?.getD []) = pick0 (Builtin.bitAnd b 61440) := rfl
 rw [e,ifmt_eq h0 h1]
 obtain ⟨n,hn⟩ := Int.eq_ofNat_of_zero_le (show 0 ≤ b / 4096 by omega)
 have := pick0_typ ⟨n,by omega⟩
 rw [hn];exact this
theorem fmOut_ten {b : Int} (h0 : 0 ≤ b) (h1 : b < 65536) : fmOut b 10 = [typS (b / 4096),s1 (sR (b / 256 % 2)),s1 (sW (b / 128 % 2)),s1 (sX (b / 64 % 2) (b / 2048 % 2)),s1 (sR (b / 32 % 2)),s1 (sW (b / 16 % 2)),s1 (sX (b / 8 % 2) (b / 1024 % 2)),
  s1 (sR (b / 4 % 2)),s1 (sW (b / 2 % 2)),s1 (sT (b % 2) (b / 512 % 2))] := by
 revert b;intros b h0 h1
 have e : fmOut b 10 = [fmPick b 0 (fmTables[0]?.getD []),fmPick b 1 [(((2 ^ 8 : Nat) : Int),"r")],fmPick b 2 [(((2 ^ 7 : Nat) : Int),"w")],fmPick b 3 [(((2 ^ 6 ||| 2 ^ 11 : Nat) : Int),"s"),(((2 ^ 11 : Nat) : Int),"S"),(((2 ^ 6 : Nat) : Int),"x")],
   fmPick b 4 [(((2 ^ 5 : Nat) : Int),"r")],fmPick b 5 [(((2 ^ 4 : Nat) : Int),"w")],fmPick b 6 [(((2 ^ 3 ||| 2 ^ 10 : Nat) : Int),"s"),(((2 ^ 10 : Nat) : Int),"S"),(((2 ^ 3 : Nat) : Int),"x")],
   fmPick b 7 [(((2 ^ 2 : Nat) : Int),"r")],fmPick b 8 [(((2 ^ 1 : Nat) : Int),"w")],fmPick b 9 [(((2 ^ 0 ||| 2 ^ 9 : Nat) : Int),"t"),(((2 ^ 9 : Nat) : Int),"T"),(((2 ^ 0 : Nat) : Int),"x")]] := rfl
 rw [e,fm0 h0 h1,one_hit h0 8 1 (by decide) _ _ rfl,one_hit h0 7 2 (by decide) _ _ rfl,two_hit h0 6 11 3 (by decide) (by decide),one_hit h0 5 4 (by decide) _ _ rfl,one_hit h0 4 5 (by decide) _ _ rfl,two_hit h0 3 10 6 (by decide) (by decide),
  one_hit h0 2 7 (by decide) _ _ rfl,one_hit h0 1 8 (by decide) _ _ rfl,two_hit h0 0 9 9 (by decide) (by decide)]
 have w1 := @s1R (b / 256 % 2)
 have w2 := @s1W (b / 128 % 2)
 have w3 := @s1X (b / 64 % 2) (b / 2048 % 2)
 have w4 := @s1R (b / 32 % 2)
 have w5 := @s1W (b / 16 % 2)
 have w6 := @s1X (b / 8 % 2) (b / 1024 % 2)
 have w7 := @s1R (b / 4 % 2)
 have w8 := @s1W (b / 2 % 2)
 have w9 := @s1T (b % 2) (b / 512 % 2)
 rw [← w1,← w2,← w3,← w4,← w5,← w6,← w7,← w8,← w9]
 have z : b / ((2 ^ 0 : Nat) : Int) = b := Int.ediv_one b
 rw [z]
 rfl
theorem tjoin0 (x : Str) (r : List Str) : Txt.join (ofString "") (x :: r) = x ++ Txt.join (ofString "") r := by
 have j : ∀ l : List Str,Txt.join (ofString "") l = Str.join (ofString "") l := fun l => eq_of_beq (join_plain_closes _ l)
 rw [j,j]
 have e : ofString "" = ⟨#[]⟩ := by decide +kernel
 rw [e]
 exact PyProof.Rows.join_nil_cons ..
theorem str_assoc (x y z : Str) : x ++ y ++ z = x ++ (y ++ z) := by
 show (⟨(x.cps ++ y.cps) ++ z.cps⟩ : Str) = ⟨x.cps ++ (y.cps ++ z.cps)⟩
 rw [Array.append_assoc]
theorem str_nil (x : Str) : x ++ Txt.join (ofString "") [] = x := by
 have e : Txt.join (ofString "") [] = ⟨#[]⟩ := by decide +kernel
 rw [e]
 show (⟨x.cps ++ #[]⟩ : Str) = x
 rw [Array.append_empty]
theorem fm_listing {b : Int} (h0 : 0 ≤ b) (h1 : b < 65536) : fmText b = listing b := by
 revert b;intros b h0 h1
 unfold fmText
 rw [fmOut_ten h0 h1,listing_nine]
 simp only [tjoin0,str_nil,str_assoc]
theorem rdR {r : Int} (h : r = 0 ∨ r = 1) (k : Nat) (hk : k = 0 ∨ k = 3 ∨ k = 6) : rightV k (s1 (sR r)) + rightW k (s1 (sR r)) = r * 2 ^ (8 - k) := by
 rcases h with rfl | rfl <;> rcases hk with rfl | rfl | rfl <;> decide +kernel
theorem rdW {r : Int} (h : r = 0 ∨ r = 1) (k : Nat) (hk : k = 1 ∨ k = 4 ∨ k = 7) : rightV k (s1 (sW r)) + rightW k (s1 (sW r)) = r * 2 ^ (8 - k) := by
 rcases h with rfl | rfl <;> rcases hk with rfl | rfl | rfl <;> decide +kernel
theorem rdX {x m : Int} (h : x = 0 ∨ x = 1) (hm : m = 0 ∨ m = 1) (k : Nat) (hk : k = 2 ∨ k = 5) : rightV k (s1 (sX x m)) + rightW k (s1 (sX x m)) = x * 2 ^ (8 - k) + m * 2 ^ (11 - k / 3) := by
 rcases h with rfl | rfl <;> rcases hm with rfl | rfl <;> rcases hk with rfl | rfl <;> decide +kernel
theorem rdT {x m : Int} (h : x = 0 ∨ x = 1) (hm : m = 0 ∨ m = 1) : rightV 8 (s1 (sT x m)) + rightW 8 (s1 (sT x m)) = x + m * 2 ^ 9 := by
 rcases h with rfl | rfl <;> rcases hm with rfl | rfl <;> decide +kernel
theorem slice_tail (a : Nat) (r : List Nat) : Txt.slice ⟨(a :: r).toArray⟩ (some 1) none = ⟨r.toArray⟩ := by
 have h := StrLaws.sliceText_from (x := ⟨(a :: r).toArray⟩) (i := 1) ⟨by decide,by simp;omega⟩
 have e : Txt.slice ⟨(a :: r).toArray⟩ (some 1) none = StrLaws.sliceText ⟨(a :: r).toArray⟩ (some 1) none := rfl
 rw [e,h]
 congr 2
 show ((a :: r).drop 1).take ((((a :: r).length : Nat) : Int) - 1).toNat = r
 rw [List.drop_one,List.tail_cons,List.length_cons]
 apply List.take_of_length_le
 omega
noncomputable def typC (b : Int) : Nat := (Txt.charAt (ofString "?pc?d?b?-?l?s???") (b / 4096)).getD 0
theorem listing_cps (b : Int) : listing b = ⟨(typC b :: nine b).toArray⟩ := by
 rw [listing_nine];rfl
theorem and4095 {b : Int} (h0 : 0 ≤ b) : Builtin.bitAnd b 4095 = b % 4096 := by
 obtain ⟨n,rfl⟩ := Int.eq_ofNat_of_zero_le h0
 have := band (n := n) (m := 4095)
 rw [show ((4095 : Nat) : Int) = 4095 from rfl] at this
 rw [this,show (4095 : Nat) = 2 ^ 12 - 1 from rfl,Nat.and_two_pow_sub_one_eq_mod]
 rfl
theorem bst (n m : Nat) : (n : Int) % ((m * 2 : Nat) : Int) = (n : Int) % (m : Int) + (n : Int) / (m : Int) % 2 * (m : Int) := by
 have := Nat.mod_mul (a := m) (b := 2) (x := n)
 rw [Nat.mul_comm m (n / m % 2)] at this
 exact_mod_cast this
theorem lin12 (a b c d e f g h i j k l : Int) : l + k * 2 + j * 4 + i * 8 + h * 16 + g * 32 + f * 64 + e * 128 + d * 256 + c * 512 + b * 1024 + a * 2048 = d * 256 + e * 128 + (f * 64 + a * 2048) + g * 32 + h * 16 + (i * 8 + b * 1024) + j * 4 + k * 2 + (l + c * 512) := by omega
theorem bits12 {b : Int} (h0 : 0 ≤ b) : b % 4096 = (b / 256 % 2) * 256 + (b / 128 % 2) * 128 + ((b / 64 % 2) * 64 + (b / 2048 % 2) * 2048) + (b / 32 % 2) * 32 + (b / 16 % 2) * 16 + ((b / 8 % 2) * 8 + (b / 1024 % 2) * 1024) + (b / 4 % 2) * 4 + (b / 2 % 2) * 2 + (b % 2 + (b / 512 % 2) * 512) := by
 revert b;intros b h0
 obtain @⟨n,rfl⟩ := Int.eq_ofNat_of_zero_le h0
 rw [show (n : Int) % 4096 = (n : Int) % 2048 + (n : Int) / 2048 % 2 * 2048 from bst n 2048,show (n : Int) % 2048 = (n : Int) % 1024 + (n : Int) / 1024 % 2 * 1024 from bst n 1024,show (n : Int) % 1024 = (n : Int) % 512 + (n : Int) / 512 % 2 * 512 from bst n 512,show (n : Int) % 512 = (n : Int) % 256 + (n : Int) / 256 % 2 * 256 from bst n 256,show (n : Int) % 256 = (n : Int) % 128 + (n : Int) / 128 % 2 * 128 from bst n 128,show (n : Int) % 128 = (n : Int) % 64 + (n : Int) / 64 % 2 * 64 from bst n 64,show (n : Int) % 64 = (n : Int) % 32 + (n : Int) / 32 % 2 * 32 from bst n 32,show (n : Int) % 32 = (n : Int) % 16 + (n : Int) / 16 % 2 * 16 from bst n 16,show (n : Int) % 16 = (n : Int) % 8 + (n : Int) / 8 % 2 * 8 from bst n 8,show (n : Int) % 8 = (n : Int) % 4 + (n : Int) / 4 % 2 * 4 from bst n 4,show (n : Int) % 4 = (n : Int) % 2 + (n : Int) / 2 % 2 * 2 from bst n 2]
 exact lin12 ..
noncomputable def rdN (l : List Nat) : Nat -> Int
 | 0 => 0
 | i + 1 => rdN l i + rightV i ⟨#[l[i]?.getD 0]⟩ + rightW i ⟨#[l[i]?.getD 0]⟩
theorem rdN_nine {b : Int} (h0 : 0 ≤ b) : rdN (nine b) 9 = Builtin.bitAnd b 4095 := by
 revert b;intros b h0
 rw [and4095 h0,bits12 h0]
 have e : rdN (nine b) 9 = 0 + rightV 0 (s1 (sR (b / 256 % 2))) + rightW 0 (s1 (sR (b / 256 % 2))) + rightV 1 (s1 (sW (b / 128 % 2))) + rightW 1 (s1 (sW (b / 128 % 2))) + rightV 2 (s1 (sX (b / 64 % 2) (b / 2048 % 2))) + rightW 2 (s1 (sX (b / 64 % 2) (b / 2048 % 2)))
  + rightV 3 (s1 (sR (b / 32 % 2))) + rightW 3 (s1 (sR (b / 32 % 2))) + rightV 4 (s1 (sW (b / 16 % 2))) + rightW 4 (s1 (sW (b / 16 % 2))) + rightV 5 (s1 (sX (b / 8 % 2) (b / 1024 % 2))) + rightW 5 (s1 (sX (b / 8 % 2) (b / 1024 % 2)))
  + rightV 6 (s1 (sR (b / 4 % 2))) + rightW 6 (s1 (sR (b / 4 % 2))) + rightV 7 (s1 (sW (b / 2 % 2))) + rightW 7 (s1 (sW (b / 2 % 2))) + rightV 8 (s1 (sT (b % 2) (b / 512 % 2))) + rightW 8 (s1 (sT (b % 2) (b / 512 % 2))) := rfl
 have q0 : _ = (b / 256 % 2) * 256 := rdR (mod2 (b / 256)) 0 (by decide)
 have q1 : _ = (b / 128 % 2) * 128 := rdW (mod2 (b / 128)) 1 (by decide)
 have q2 : _ = (b / 64 % 2) * 64 + (b / 2048 % 2) * 2048 := rdX (mod2 (b / 64)) (mod2 (b / 2048)) 2 (by decide)
 have q3 : _ = (b / 32 % 2) * 32 := rdR (mod2 (b / 32)) 3 (by decide)
 have q4 : _ = (b / 16 % 2) * 16 := rdW (mod2 (b / 16)) 4 (by decide)
 have q5 : _ = (b / 8 % 2) * 8 + (b / 1024 % 2) * 1024 := rdX (mod2 (b / 8)) (mod2 (b / 1024)) 5 (by decide)
 have q6 : _ = (b / 4 % 2) * 4 := rdR (mod2 (b / 4)) 6 (by decide)
 have q7 : _ = (b / 2 % 2) * 2 := rdW (mod2 (b / 2)) 7 (by decide)
 have q8 : _ = b % 2 + (b / 512 % 2) * 512 := rdT (mod2 b) (mod2 (b / 512))
 rw [e,← q0,← q1,← q2,← q3,← q4,← q5,← q6,← q7,← q8]
 generalize rightV 0 _ = a0
 generalize rightW 0 _ = b0
 generalize rightV 1 _ = a1
 generalize rightW 1 _ = b1
 generalize rightV 2 _ = a2
 generalize rightW 2 _ = b2
 generalize rightV 3 _ = a3
 generalize rightW 3 _ = b3
 generalize rightV 4 _ = a4
 generalize rightW 4 _ = b4
 generalize rightV 5 _ = a5
 generalize rightW 5 _ = b5
 generalize rightV 6 _ = a6
 generalize rightW 6 _ = b6
 generalize rightV 7 _ = a7
 generalize rightW 7 _ = b7
 generalize rightV 8 _ = a8
 generalize rightW 8 _ = b8
 omega
theorem ink_nine (b : Int) : ∀ c ∈ nine b,Unicode.isSpace c = false := by
 revert b;intros b
 have hR : ∀ r,Unicode.isSpace (sR r) = false := fun r => by unfold sR;split <;> decide +kernel
 have hW : ∀ r,Unicode.isSpace (sW r) = false := fun r => by unfold sW;split <;> decide +kernel
 have hX : ∀ r m,Unicode.isSpace (sX r m) = false := fun r m => by unfold sX;split <;> split <;> decide +kernel
 have hT : ∀ r m,Unicode.isSpace (sT r m) = false := fun r m => by unfold sT;split <;> split <;> decide +kernel
 intros c hc
 unfold nine at hc
 simp only [List.mem_cons,List.not_mem_nil,or_false] at hc
 rcases hc with rfl | rfl | rfl | rfl | rfl | rfl | rfl | rfl | rfl
 ·exact hR _
 ·exact hW _
 ·exact hX _ _
 ·exact hR _
 ·exact hW _
 ·exact hX _ _
 ·exact hR _
 ·exact hW _
 ·exact hT _ _
theorem ink_typ {b : Int} (h0 : 0 ≤ b) (h1 : b < 65536) : Unicode.isSpace (typC b) = false := by
 have key : ∀ t : Fin 16,Unicode.isSpace ((Txt.charAt (ofString "?pc?d?b?-?l?s???") (t.val : Int)).getD 0) = false := by decide +kernel
 obtain ⟨n,hn⟩ := Int.eq_ofNat_of_zero_le (show 0 ≤ b / 4096 by omega)
 have := key ⟨n,by omega⟩
 unfold typC
 rw [hn];exact this
inductive Wd : List Nat -> List (List Nat) -> Prop
 | nil : Wd [] []
 | sp {c : Nat} {cs : List Nat} {ws : List (List Nat)} (h : Unicode.isSpace c = true) (t : Wd cs ws) : Wd (c :: cs) ws
 | last {w : List Nat} (hn : w ≠ []) (hi : ∀ c ∈ w,Unicode.isSpace c = false) : Wd w [w]
 | word {w : List Nat} {c : Nat} {cs : List Nat} {ws : List (List Nat)} (hn : w ≠ []) (hi : ∀ c ∈ w,Unicode.isSpace c = false) (h : Unicode.isSpace c = true) (t : Wd cs ws) : Wd (w ++ c :: cs) (w :: ws)
theorem Wd.cat {c : Nat} (hc : Unicode.isSpace c = true) {cs' : List Nat} {ws' : List (List Nat)} (t' : Wd cs' ws') : ∀ {cs : List Nat} {ws : List (List Nat)},Wd cs ws -> Wd (cs ++ c :: cs') (ws ++ ws')
 | _,_,.nil => .sp hc t'
 | _,_,.sp h t => .sp h (Wd.cat hc t' t)
 | _,_,.last hn hi => .word hn hi hc t'
 | _,_,.word (w := w) (c := c1) (cs := cs1) hn hi h t => by
  have := Wd.word hn hi h (Wd.cat hc t' t)
  rw [List.append_assoc,List.cons_append,List.cons_append]
  exact this
open StrLaws in
theorem sw_ink (s : Str) (limit n : Nat) : ∀ (m cur : Nat) (acc : Array (Nat × Nat)) (b : Nat),acc.size ≠ limit -> (∀ i,cur ≤ i -> i < cur + m -> Unicode.isSpace (s.cps.getD i 0) = false) ->
  (forIn (m := Id) (List.range' cur (n + m)) ((none,acc,some b) : SwSt) (swBody s limit)).run = (forIn (m := Id) (List.range' (cur + m) n) ((none,acc,some b) : SwSt) (swBody s limit)).run
 | 0,cur,acc,b,_,_ => rfl
 | m + 1,cur,acc,b,hs,h => by
  rw [show n + (m + 1) = (n + m) + 1 by omega,List.range'_succ,List.forIn_cons]
  have hsz : ¬ ((acc.size == limit) = true) := by rw [beq_iff_eq];exact hs
  have hc := h cur (Nat.le_refl _) (by omega)
  rw [show cur + (m + 1) = (cur + 1) + m by omega,← sw_ink s limit n m (cur + 1) acc b hs fun i h1 h2 => h i (by omega) (by omega)]
  conv => lhs;unfold swBody
  simp only [hsz,if_false,hc]
  rfl
theorem getD_pre {s : Str} {pre cs : List Nat} (e : s.cps.toList = pre ++ cs) (i : Nat) : s.cps.getD (pre.length + i) 0 = cs.getD i 0 := by
 have h : s.cps.getD (pre.length + i) 0 = s.cps.toList.getD (pre.length + i) 0 := by
  cases s with | mk a => cases a;simp
 rw [h,e]
 rw [List.getD_eq_getElem?_getD,List.getD_eq_getElem?_getD,List.getElem?_append_right (by omega),Nat.add_sub_cancel_left]
theorem sub_pre {s : Str} {pre w r : List Nat} (e : s.cps.toList = pre ++ (w ++ r)) : Builtin.Str.strSub s pre.length (pre.length + w.length) = ⟨w.toArray⟩ := by
 unfold Builtin.Str.strSub
 congr 1
 apply Array.toList_inj.mp
 rw [Array.toList_extract,e]
 simp [List.extract_eq_drop_take]
open StrLaws in
theorem sw_wd (s : Str) (limit : Nat) (hl : s.length < limit) : ∀ {cs : List Nat} {ws : List (List Nat)},Wd cs ws -> ∀ (pre : List Nat) (acc : Array (Nat × Nat)),s.cps.toList = pre ++ cs -> acc.size ≤ pre.length ->
  (swEnd s (forIn (m := Id) (List.range' pre.length cs.length) ((none,acc,none) : SwSt) (swBody s limit)).run).map (fun p => Builtin.Str.strSub s p.1 p.2) = acc.toList.map (fun p => Builtin.Str.strSub s p.1 p.2) ++ ws.map (fun w => (⟨w.toArray⟩ : Str))
 | _,_,.nil,pre,acc,e,hs => by
  show (acc.toList).map _ = _
  simp
 | _,_,.sp (c := c) (cs := cs) h t,pre,acc,e,hs => by
  have hlen : s.length = pre.length + (cs.length + 1) := by
   have := congrArg List.length e;simpa [Str.length] using this
  have hsz : ¬ ((acc.size == limit) = true) := by rw [beq_iff_eq];omega
  have hc : Unicode.isSpace (s.cps.getD pre.length 0) = true := by
   have := getD_pre e 0
   rw [Nat.add_zero] at this
   rw [this];exact h
  have ih := sw_wd s limit hl t (pre ++ [c]) acc (by rw [e];simp) (by simp;omega)
  rw [List.length_append,List.length_singleton] at ih
  rw [List.length_cons,List.range'_succ,List.forIn_cons,← ih]
  conv => lhs;unfold swBody
  simp only [hsz,if_false,hc]
  rfl
 | w,_,.last (w := _) hn hi,pre,acc,e,hs => by
  obtain ⟨c,w,rfl⟩ := List.exists_cons_of_ne_nil hn
  have hlen : s.length = pre.length + (w.length + 1) := by
   have := congrArg List.length e;simpa [Str.length] using this
  have hsz : ¬ ((acc.size == limit) = true) := by rw [beq_iff_eq];omega
  have hc : Unicode.isSpace (s.cps.getD pre.length 0) = false := by
   have := getD_pre e 0
   rw [Nat.add_zero] at this
   rw [this];exact hi c (List.mem_cons_self ..)
  have hk := sw_ink s limit 0 w.length (pre.length + 1) acc pre.length (by omega) fun i h1 h2 => by
   obtain ⟨j,rfl⟩ : ∃ j,i = pre.length + (j + 1) := ⟨i - pre.length - 1,by omega⟩
   rw [getD_pre e,List.getD_cons_succ,List.getD_eq_getElem?_getD,List.getElem?_eq_getElem (by omega)]
   exact hi _ (List.mem_cons_of_mem _ (List.getElem_mem _))
  rw [Nat.zero_add] at hk
  rw [List.length_cons,List.range'_succ,List.forIn_cons]
  have hb : swBody s limit pre.length (none,acc,none) = pure (ForInStep.yield (none,acc,some pre.length)) := by
   unfold swBody
   simp only [hsz,if_false,hc]
   rfl
  rw [hb]
  show (swEnd s (forIn (m := Id) (List.range' (pre.length + 1) w.length) ((none,acc,some pre.length) : SwSt) (swBody s limit)).run).map _ = _
  rw [hk]
  show (acc.push (pre.length,s.length)).toList.map _ = _
  rw [Array.toList_push,List.map_append]
  congr 1
  have := sub_pre (s := s) (pre := pre) (w := c :: w) (r := []) (by rw [e];simp)
  show [Builtin.Str.strSub s pre.length s.length] = [_]
  rw [hlen]
  exact congrArg (fun z => [z]) this
 | _,_,.word (w := w0) (c := c1) (cs := cs) (ws := ws) hn hi h t,pre,acc,e,hs => by
  obtain ⟨c,w,rfl⟩ := List.exists_cons_of_ne_nil hn
  have hlen : s.length = pre.length + (w.length + 1) + (cs.length + 1) := by
   have := congrArg List.length e;simp [Str.length] at this ⊢;omega
  have hsz : ¬ ((acc.size == limit) = true) := by rw [beq_iff_eq];omega
  have hc : Unicode.isSpace (s.cps.getD pre.length 0) = false := by
   have := getD_pre e 0
   rw [Nat.add_zero] at this
   rw [this];exact hi c (List.mem_cons_self ..)
  have hk := sw_ink s limit (cs.length + 1) w.length (pre.length + 1) acc pre.length (by omega) fun i h1 h2 => by
   obtain ⟨j,rfl⟩ : ∃ j,i = pre.length + (j + 1) := ⟨i - pre.length - 1,by omega⟩
   rw [getD_pre e,List.cons_append,List.getD_cons_succ,List.getD_eq_getElem?_getD,List.getElem?_append_left (by omega),List.getElem?_eq_getElem (by omega)]
   exact hi _ (List.mem_cons_of_mem _ (List.getElem_mem _))
  have e2 : s.cps.toList = (pre ++ (c :: w)) ++ c1 :: cs := by rw [e,List.append_assoc]
  have hc1 : Unicode.isSpace (s.cps.getD (pre.length + 1 + w.length) 0) = true := by
   have := getD_pre e2 0
   rw [Nat.add_zero,List.length_append,List.length_cons] at this
   rw [show pre.length + 1 + w.length = pre.length + (w.length + 1) by omega,this];exact h
  have hb : swBody s limit pre.length (none,acc,none) = pure (ForInStep.yield (none,acc,some pre.length)) := by
   unfold swBody
   simp only [hsz,if_false,hc]
   rfl
  have hb2 : swBody s limit (pre.length + 1 + w.length) (none,acc,some pre.length) = pure (ForInStep.yield (none,acc.push (pre.length,pre.length + 1 + w.length),none)) := by
   unfold swBody
   simp only [hsz,if_false,hc1]
   rfl
  have ih := sw_wd s limit hl t ((pre ++ (c :: w)) ++ [c1]) (acc.push (pre.length,pre.length + 1 + w.length)) (by rw [e2];simp) (by simp;omega)
  rw [show (c :: w ++ c1 :: cs).length = (cs.length + 1 + w.length) + 1 by simp;omega,List.range'_succ,List.forIn_cons,hb]
  show (swEnd s (forIn (m := Id) (List.range' (pre.length + 1) (cs.length + 1 + w.length)) ((none,acc,some pre.length) : SwSt) (swBody s limit)).run).map _ = _
  rw [hk,List.range'_succ,List.forIn_cons,hb2]
  show (swEnd s (forIn (m := Id) (List.range' (pre.length + 1 + w.length + 1) cs.length) ((none,acc.push (pre.length,pre.length + 1 + w.length),none) : SwSt) (swBody s limit)).run).map _ = _
  rw [show pre.length + 1 + w.length + 1 = ((pre ++ (c :: w)) ++ [c1]).length by simp;omega,ih,Array.toList_push,List.map_append,List.append_assoc]
  congr 1
  have := sub_pre (s := s) (pre := pre) (w := c :: w) (r := c1 :: cs) (by rw [e])
  show [Builtin.Str.strSub s pre.length (pre.length + 1 + w.length)] ++ _ = _
  rw [show pre.length + 1 + w.length = pre.length + (c :: w).length by simp;omega,this];rfl
open StrLaws in
theorem words_wd {s : Str} {ws : List (List Nat)} (t : Wd s.cps.toList ws) : Txt.words s = ws.map fun w => (⟨w.toArray⟩ : Str) := by
 have key := sw_wd s (s.length + 1) (Nat.lt_succ_self _) t [] #[] rfl (Nat.le_refl 0)
 rw [Array.length_toList] at key
 change (swEnd s (forIn (m := Id) (List.range' 0 s.length) ((none,#[],none) : SwSt) (swBody s (s.length + 1))).run).map _ = _ at key
 rw [← sw_eq] at key
 have key2 : PySem.wordsOf s = ws.map fun w => (⟨w.toArray⟩ : Str) := key
 unfold Txt.words
 split
 ·rename_i h
  have h := eq_of_beq h
  have : PySem.wordsOf s = [s] := by
   unfold PySem.wordsOf
   rw [h]
   show [Builtin.Str.strSub s 0 s.length] = _
   unfold Builtin.Str.strSub Str.length
   simp
  rw [← this];exact key2
 ·exact key2
theorem sk_length {l : List Int} (h : ∀ b ∈ l,0 ≤ b / 4096) : ∀ m : Nat,((List.range m).flatMap fun (k : Nat) => l.filter fun b => b / 4096 == Int.ofNat k).length = (l.filter fun b => decide (b / 4096 < (m : Int))).length
 | 0 => by
  have : l.filter (fun b => decide (b / 4096 < ((0 : Nat) : Int))) = [] := by
   rw [List.filter_eq_nil_iff]
   intro b hb
   have := h b hb
   rw [decide_eq_true_iff];omega
  rw [this];rfl
 | m + 1 => by
  rw [List.range_succ,List.flatMap_append,List.length_append,sk_length h m,List.flatMap_cons,List.flatMap_nil,List.append_nil]
  clear h
  induction l with
  | nil => rfl
  | cons b r ih =>
   simp only [List.filter_cons]
   have e : (b / 4096 == Int.ofNat m) = decide (b / 4096 = (m : Int)) := by
    by_cases q : b / 4096 = (m : Int)
    ·rw [decide_eq_true q,q];exact beq_self_eq_true _
    ·rw [decide_eq_false q];exact beq_eq_false_iff_ne.mpr q
   rw [e]
   by_cases h1 : b / 4096 < (m : Int)
   ·rw [decide_eq_true h1,decide_eq_false (show ¬ b / 4096 = (m : Int) by omega),decide_eq_true (show b / 4096 < ((m + 1 : Nat) : Int) by omega)]
    simp only [if_true,List.length_cons,Bool.false_eq_true,if_false]
    omega
   ·by_cases h2 : b / 4096 = (m : Int)
    ·rw [decide_eq_false h1,decide_eq_true h2,decide_eq_true (show b / 4096 < ((m + 1 : Nat) : Int) by omega)]
     simp only [if_true,List.length_cons,Bool.false_eq_true,if_false]
     omega
    ·rw [decide_eq_false h1,decide_eq_false h2,decide_eq_false (show ¬ b / 4096 < ((m + 1 : Nat) : Int) by omega)]
     simp only [Bool.false_eq_true,if_false]
     omega
theorem told_came (ns : List Int) : (lwTold ns).length = (lwCame ns).length := by
 have hr := came_range ns
 unfold lwTold sk
 rw [sk_length (fun b hb => by have := hr b hb;omega) 16,List.filter_eq_self.mpr]
 intro b hb
 have := hr b hb
 rw [decide_eq_true_iff];omega
theorem told_range {ns : List Int} : ∀ b ∈ lwTold ns,0 ≤ b ∧ b < 65536 := fun b hb => came_range ns b (told_mem hb)
noncomputable abbrev lwWords (ns : List Int) : List Str := (lwTold ns).map listing
theorem list_ls (b : Int) : ls (listing b) = typC b :: nine b := by rw [listing_cps];rfl
theorem list_len (b : Int) : (listing b).length = 10 := by rw [← ls_len,list_ls];rfl
theorem words_len10 (ns : List Int) : ∀ x ∈ lwWords ns,x.length = 10 := by
 intro x hx
 obtain ⟨b,_,rfl⟩ := List.mem_map.mp hx
 exact list_len b
theorem bare01 (ns : List Int) : lwBare ns = 0 ∨ lwBare ns = 1 := by unfold lwBare;omega
theorem head0 (ns : List Int) : 0 ≤ lwHead ns ∧ lwHead ns < 100000 := by
 unfold lwHead;omega
theorem ent_get (ns : List Int) {k : Nat} (h : k < (lwTold ns).length) : (lwEnt ns)[k]? = some (fwsOf (lwBare ns) k,(lwTold ns)[k]) := by
 unfold lwEnt
 rw [List.getElem?_map,List.getElem?_zipIdx,List.getElem?_eq_getElem h]
 simp only [Option.map_some,Nat.zero_add]
 rfl
theorem ent_len (ns : List Int) : (lwEnt ns).length = (lwTold ns).length := by simp [lwEnt]
theorem run_sim (ns : List Int) : ∀ k,k ≤ (lwTold ns).length -> Sim (lwWords ns) (lwBare ns) (runFS (lwWidth ns) (lwLiked ns) (lwHead ns) ((lwEnt ns).take k)) (rowsSt (lwWords ns) (lwHead ns) (lwWidth ns) (lwLiked ns) (lwBare ns) k) k
 | 0,_ => ⟨rfl,rfl,rfl,Nat.le_refl 0,fun h => absurd h (Nat.lt_irrefl 0),bare01 ns,fun _ => rfl,(head0 ns).1,fun _ => rfl⟩
 | k + 1,hk => by
  have ih := run_sim ns k (by omega)
  rw [run_step (ent_get ns (by omega)),rowsSt_succ]
  have hkw : k < (lwWords ns).length := by rw [List.length_map];omega
  have e : ((fwsOf (lwBare ns) k,fmText ((lwTold ns)[k])) : Str × Str) = ptOf (lwWords ns) (lwBare ns) k := by
   unfold ptOf
   congr 1
   have hb := told_range _ (List.getElem_mem (l := lwTold ns) (n := k) (by omega))
   rw [fm_listing hb.1 hb.2]
   unfold wordAt
   rw [List.getElem?_map,List.getElem?_eq_getElem (by omega)];rfl
  show Sim _ _ (FS.chunk _ _ _ (fwsOf (lwBare ns) k,fmText ((lwTold ns)[k]))) _ _
  rw [e]
  exact ih.step (bare01 ns) (words_len10 ns) hkw _ _
theorem told_pos (ns : List Int) : 0 < (lwTold ns).length ∧ (lwTold ns).length ≤ 13 := by
 have := came_len ns
 rw [told_came];omega
theorem lines_rows (ns : List Int) : (runFS (lwWidth ns) (lwLiked ns) (lwHead ns) (lwEnt ns)).newl.lines = lwRows ns := by
 revert ns;intros ns
 have S := run_sim ns (lwTold ns).length (Nat.le_refl _)
 rw [show (lwEnt ns).take (lwTold ns).length = lwEnt ns by rw [← ent_len,List.take_length]] at S
 have hp := told_pos ns
 have hwl : (lwWords ns).length = (lwTold ns).length := List.length_map ..
 have h1 := S.st1 hp.1
 have hne : (runFS (lwWidth ns) (lwLiked ns) (lwHead ns) (lwEnt ns)).parts ≠ [] := by
  rw [S.parts]
  intro z
  have := congrArg List.length z
  rw [pts_len] at this
  simp at this;exact absurd h1 (Nat.not_lt.mpr (Nat.sub_eq_zero_iff_le.mp this))
 show (runFS (lwWidth ns) (lwLiked ns) (lwHead ns) (lwEnt ns)).lines ++ [(runFS (lwWidth ns) (lwLiked ns) (lwHead ns) (lwEnt ns)).again.text] = _
 rw [again_eq hne,S.lines]
 have ht := line_text S.bare (σ := runFS (lwWidth ns) (lwLiked ns) (lwHead ns) (lwEnt ns)) (m := (lwTold ns).length - (rowsSt (lwWords ns) (lwHead ns) (lwWidth ns) (lwLiked ns) (lwBare ns) (lwTold ns).length).start) (Nat.sub_pos_of_lt h1) (by rw [Nat.add_sub_of_le S.st,List.length_map];exact Nat.le_refl _) S.parts
 rw [ht]
 unfold lwRows rowsOf
 show _ = (rowsSt (lwWords ns) (lwHead ns) (lwWidth ns) (lwLiked ns) (lwBare ns) (lwWords ns).length).rows ++ [lineOf (lwWords ns) (rowsSt (lwWords ns) (lwHead ns) (lwWidth ns) (lwLiked ns) (lwBare ns) (lwWords ns).length).start (lwWords ns).length _]
 rw [hwl]
 congr 3
 exact Nat.add_sub_of_le S.st
theorem Wd.none {ws : List (List Nat)} : ∀ {cs : List Nat},Wd cs ws -> cs = [] -> ws = []
 | _,.nil,_ => rfl
 | _,.sp _ _,e => by cases e
 | _,.last hn _,e => absurd e hn
 | _,.word (w := w) _ _ _ _,e => by
  have := congrArg List.length e
  simp at this
theorem wd_words : ∀ {l : List Str},(∀ x ∈ l,ls x ≠ [] ∧ ∀ c ∈ ls x,Unicode.isSpace c = false) -> Wd (ls (Txt.join (ofString " ") l)) (l.map ls)
 | [],_ => by rw [txt_join];exact .nil
 | [x],h => by
  have := h x (List.mem_cons_self ..)
  rw [txt_join]
  exact .last this.1 this.2
 | x :: y :: r,h => by
  have hx := h x (List.mem_cons_self ..)
  have ih := wd_words (l := y :: r) fun q hq => h q (List.mem_cons_of_mem _ hq)
  rw [txt_join] at ih ⊢
  have e : Str.join (ofString " ") (x :: y :: r) = x ++ ofString " " ++ Str.join (ofString " ") (y :: r) := rfl
  rw [e,ls_append,ls_append,List.append_assoc]
  exact .word hx.1 hx.2 (c := 32) (by decide +kernel) ih
theorem wd_line {ws : List Str} (h : ∀ x ∈ ws,ls x ≠ [] ∧ ∀ c ∈ ls x,Unicode.isSpace c = false) (low high : Nat) (bare : Int) : Wd (ls (lineOf ws low high bare)) (((ws.map ls).drop low).take (high - low)) := by
 unfold lineOf
 rw [ls_append,← List.map_drop,← List.map_take]
 have hw := wd_words (l := (ws.drop low).take (high - low)) fun x hx => h x (List.mem_of_mem_drop (List.mem_of_mem_take hx))
 split
 ·exact hw
 ·exact .sp (c := 32) (by decide +kernel) hw
theorem wd_snoc {rows : List Str} {x : Str} {W V : List (List Nat)} (h1 : Wd (ls (Txt.join (ofString "\n") rows)) W) (h2 : Wd (ls x) V) : Wd (ls (Txt.join (ofString "\n") (rows ++ [x]))) (W ++ V) := by
 cases rows with
 | nil =>
  have : W = [] := h1.none (by rw [txt_join];rfl)
  rw [this]
  show Wd (ls (Txt.join _ [x])) V
  rw [ls_joinC]
  show Wd (ls x ++ []) V
  rw [List.append_nil];exact h2
 | cons y r =>
  rw [List.cons_append,ls_joinC,List.flatMap_append,← List.append_assoc,← ls_joinC]
  show Wd (_ ++ ((10 :: ls x) ++ [])) _
  rw [List.append_nil]
  exact Wd.cat (c := 10) (by decide +kernel) h2 h1
theorem take_drop_take {α : Type} (l : List α) {a b : Nat} (h : a ≤ b) : l.take a ++ (l.drop a).take (b - a) = l.take b := by
 rw [(Nat.add_sub_of_le h).symm,List.take_add,Nat.add_sub_cancel_left]
set_option tactic.hygienic true in
theorem turn_wd {ws : List Str} (h : ∀ x ∈ ws,ls x ≠ [] ∧ ∀ c ∈ ls x,Unicode.isSpace c = false) {liked : Str} {width : Int} {σ : RS} {n : Nat} (hs : 0 < σ.head -> σ.start = 0) (hI : Wd (ls (Txt.join (ofString "\n") σ.rows)) ((ws.map ls).take σ.start)) :
  Wd (ls (Txt.join (ofString "\n") (rowsTurn ws liked width σ n).rows)) ((ws.map ls).take (rowsTurn ws liked width σ n).start) := by
 revert ws liked width σ n;intros ws h liked width σ n hs hI
 unfold rowsTurn
 split
 ·split
  ·rename_i p r e
   obtain @⟨i,hi,hp⟩ := wishes_mem (e ▸ pMin_mem p r)
   have := wd_snoc hI (wd_line h σ.start (-(pMin p r).2).toNat σ.bare)
   rw [take_drop_take _ (by omega)] at this
   exact this
  ·split
   ·rename_i hh
    have h0 := hs hh
    rw [h0] at hI
    by_cases hn : 0 < n
    ·show Wd (ls (Txt.join _ (σ.rows ++ [if 0 < n then _ else _]))) (List.take n _)
     rw [if_pos hn]
     have := wd_snoc hI (wd_line h 0 n σ.bare)
     rw [take_drop_take _ (by omega)] at this
     exact this
    ·show Wd (ls (Txt.join _ (σ.rows ++ [if 0 < n then _ else _]))) (List.take n _)
     rw [if_neg hn,show n = 0 by omega]
     have := wd_snoc (x := ofString "") hI Wd.nil
     rw [List.append_nil] at this
     exact this
   ·exact hI
 ·exact hI
theorem told_ink (ns : List Int) : ∀ x ∈ lwWords ns,ls x ≠ [] ∧ ∀ c ∈ ls x,Unicode.isSpace c = false := by
 intro x hx
 obtain ⟨b,hb,rfl⟩ := List.mem_map.mp hx
 have hr := told_range b hb
 rw [list_ls]
 refine ⟨fun z => (by cases z),fun c hc => ?_⟩
 rcases List.mem_cons.mp hc with rfl | hc
 ·exact ink_typ hr.1 hr.2
 ·exact ink_nine b c hc
theorem rows_wd (ns : List Int) : ∀ k,k ≤ (lwTold ns).length -> Wd (ls (Txt.join (ofString "\n") (rowsSt (lwWords ns) (lwHead ns) (lwWidth ns) (lwLiked ns) (lwBare ns) k).rows)) (((lwWords ns).map ls).take (rowsSt (lwWords ns) (lwHead ns) (lwWidth ns) (lwLiked ns) (lwBare ns) k).start)
 | 0,_ => by
  show Wd (ls (Txt.join (ofString "\n") [])) []
  rw [txt_join];exact .nil
 | k + 1,hk => by
  rw [rowsSt_succ]
  exact turn_wd (told_ink ns) (run_sim ns k (by omega)).hs (rows_wd ns k (by omega))
theorem shown_words (ns : List Int) : Txt.words (Txt.join (ofString "\n") (lwRows ns)) = lwWords ns := by
 have hwl : (lwWords ns).length = (lwTold ns).length := List.length_map ..
 have hI := rows_wd ns (lwTold ns).length (Nat.le_refl _)
 have S := run_sim ns (lwTold ns).length (Nat.le_refl _)
 have hst := S.st
 have h2 := wd_snoc hI (wd_line (told_ink ns) (rowsSt (lwWords ns) (lwHead ns) (lwWidth ns) (lwLiked ns) (lwBare ns) (lwTold ns).length).start (lwTold ns).length (rowsSt (lwWords ns) (lwHead ns) (lwWidth ns) (lwLiked ns) (lwBare ns) (lwTold ns).length).bare)
 rw [take_drop_take _ hst] at h2
 have e : lwRows ns = (rowsSt (lwWords ns) (lwHead ns) (lwWidth ns) (lwLiked ns) (lwBare ns) (lwTold ns).length).rows ++ [lineOf (lwWords ns) (rowsSt (lwWords ns) (lwHead ns) (lwWidth ns) (lwLiked ns) (lwBare ns) (lwTold ns).length).start (lwTold ns).length (rowsSt (lwWords ns) (lwHead ns) (lwWidth ns) (lwLiked ns) (lwBare ns) (lwTold ns).length).bare] := by
  unfold lwRows rowsOf
  show (rowsSt (lwWords ns) (lwHead ns) (lwWidth ns) (lwLiked ns) (lwBare ns) (lwWords ns).length).rows ++ [lineOf (lwWords ns) (rowsSt (lwWords ns) (lwHead ns) (lwWidth ns) (lwLiked ns) (lwBare ns) (lwWords ns).length).start (lwWords ns).length _] = _
  rw [hwl]
 rw [← e] at h2
 have h3 := words_wd h2
 rw [h3,List.take_of_length_le (by rw [List.length_map,hwl];exact Nat.le_refl _),List.map_map]
 conv => rhs;rw [← List.map_id (lwWords ns)]
 apply List.map_congr_left
 intro x _
 show (⟨(ls x).toArray⟩ : Str) = x
 unfold ls
 cases x;rfl
theorem read_nine (l : List Nat) : ∀ i,readTo ⟨l.toArray⟩ i = rdN l i
 | 0 => rfl
 | i + 1 => by
  show readTo ⟨l.toArray⟩ i + _ + _ = rdN l i + _ + _
  rw [read_nine l i];rfl
theorem read_listing {b : Int} (h0 : 0 ≤ b) : lwRead (listing b) = Builtin.bitAnd b 4095 := by
 unfold lwRead
 rw [listing_cps,slice_tail,read_nine,← rdN_nine h0];rfl
theorem read_all : ∀ (l : List Int),(∀ b ∈ l,0 ≤ b) -> (l.map listing).map lwRead = l.map fun b => Builtin.bitAnd b 4095
 | [],_ => rfl
 | b :: r,h => by
  rw [List.map_cons,List.map_cons,List.map_cons,read_all r fun q hq => h q (List.mem_cons_of_mem _ hq),read_listing (h b (List.mem_cons_self ..))]
theorem shown_len {width : Int} {liked : Str} {head : Int} {es : List (Str × Int)} (h0 : 0 ≤ head) (h1 : head < 100000) (hx : ∀ p ∈ es,p.1.length ≤ 1) (hn : es.length ≤ 64) : (shownOf width liked head es).length ≤ 100000 := by
 have g := run_good (width := width) (liked := liked) h0 h1 hx es.length (Nat.le_refl _)
 have s := run_short (width := width) (liked := liked) (N := 715) h0 h1 hx (by omega) es.length (Nat.le_refl _)
 rw [List.take_length] at g s
 have hl : (runFS width liked head es).newl.lines = (runFS width liked head es).lines ++ [(runFS width liked head es).again.text] := rfl
 have hs : ∀ x ∈ (runFS width liked head es).newl.lines,x.length ≤ 715 := fun x hx => by
  rw [hl] at hx
  rcases List.mem_append.mp hx with z | z
  ·exact s x z
  ·rw [List.mem_singleton.mp z]
   exact Nat.le_trans (text_len (again_lens g).1 (again_lens g).2) (by omega)
 have h2 := strs_sum_le hs
 have h3 : (runFS width liked head es).newl.lines.length ≤ 65 := by rw [hl];have := g.nl;simp;omega
 have h4 := StrLaws.join_length_le (ofString "\n") (runFS width liked head es).newl.lines
 have e : (ofString "\n").length = 1 := rfl
 rw [e,Nat.mul_one,← txt_join] at h4
 show (Txt.join (ofString "\n") _).length ≤ _
 omega
theorem ent_short (ns : List Int) : ∀ p ∈ lwEnt ns,p.1.length ≤ 1 := by
 intro p hp
 unfold lwEnt at hp
 obtain ⟨q,_,rfl⟩ := List.mem_map.mp hp
 show (lwFws _ _).length ≤ 1
 unfold lwFws
 split <;> decide
theorem law_ok (ns : List Int) : LawOk ns := by
 have hrows : lwShown ns = Txt.join (ofString "\n") (lwRows ns) := by
  unfold lwShown shownOf
  rw [lines_rows]
 have hlen : (lwEnt ns).length ≤ 64 := by rw [ent_len];have := told_pos ns;omega
 have hh := head0 ns
 refine ⟨told_came ns,hrows,?_,?_,?_,?_⟩
 ·rw [hrows,shown_words]
  exact read_all _ fun b hb => (told_range b hb).1
 ·rw [hrows,shown_words]
  intro x hx
  refine ⟨words_len10 ns x hx,?_⟩
  obtain ⟨b,_,rfl⟩ := List.mem_map.mp hx
  rw [listing_cps,slice_tail]
  exact Nat.le_refl 9
 ·exact shown_len hh.1 hh.2 (ent_short ns) hlen
 ·have := newl_lens (width := lwWidth ns) (liked := lwLiked ns) hh.1 hh.2 (ent_short ns) hlen
  rw [lines_rows] at this
  exact this
section
set_option maxHeartbeats 1000000
theorem law_good {p : Program} {loose : List Str} {mean mean' : ExcName -> Option Value} {cl : Str -> Option Addr} {mg mb : Str -> Option Value} {w : World} {s : Shared} {l : Addr} {vs : List Value} {ns : List Int} {args : List WData}
  (X : (hd.heap_1 w.params).In s.heap) (hT8 : ∀ P ∈ [140,147,184],s.heap.get? P = some (tabObj #[])) (T : Top p loose mean mg mb s.heap)
  (hl : s.heap.IsList l vs.toArray) (hi : IntsAre vs ns) (hn : ns.length ≤ 63) (hg : s.gens = #[])
  (c : ClaimW) (hc1 : ∀ cls,c.raises args cls = false) (hc2 : c.post args (.bool true) args = true) :
  codeAny (model PR w) callerA (.call (.ref 297) ⟨[.ref l],[]⟩) (GoodWG c cl mean' args s) s := by
 have hT : TabsAt lawTabs s.heap := by
  intro q hq
  simp only [List.mem_cons,List.not_mem_nil,or_false] at hq
  rcases hq with rfl | rfl | rfl
  ·exact ⟨codeHd_of_K X (hcd188 _),hT8 184 (by simp)⟩
  ·exact ⟨codeHd_of_K X (hcd144 _),hT8 140 (by simp)⟩
  ·exact ⟨codeHd_of_K X (hcd151 _),hT8 147 (by simp)⟩
 refine codeAny_mono (law_run X hT8 T hl hi hn (law_ok ns)) fun r s' z => ?_
 rcases r with e | fl
 ·exact z.elim
 ·cases fl with
  | ret v =>
   obtain ⟨e,rfl,hI⟩ := z
   exact ⟨.inl ⟨.bool true,.bool true,[],rfl,hc1,.bool _,hc2,fun _ => ⟨List.nodup_nil,fun a ha => nomatch ha⟩⟩,law_old hT e hI,e.os,e.gens (.of_eq hg)⟩
  | _ => exact z.elim
end
end Mine
end
set_option tactic.hygienic true
open PySem PySem.W PyProof.Rows PySem.Calls
set_option maxHeartbeats 8000000 in
theorem PySem.Challenge.cw_ik0052_01_holds : PySem.Challenge.rw_ik0052_01.Holds := by
 w_on
 refine holds_law Mine.kSaid ?_
 intros said
 refine holds_open (q := Mine.KView) (loose := Mine.KLoose) (Xt := fun s => xlAt Mine.KView [] s && recOk (RowW.records PySem.Challenge.rw_ik0052_01.row.toRowW) s) (XP := XL Mine.KView []) (Yf := Hook.obs Mine.KHook) (Ya := Hook.val Mine.KHook) (YP := Hook.says Mine.KHook) (N := 3738) Mine.kLeft (Hook.of Mine.KHook) (Hook.keeps Mine.KHook) (fun s e => xl_of s (Bool.and_eq_true_iff.mp e).1) XL.keeps (by rfl) (by rfl) (by rfl) (fun s e => recFacts_of (Bool.and_eq_true_iff.mp e).2) (by first | rfl) (by first | assumption | decide +kernel) (by decide +kernel) ⟨rfl,rfl,rfl,rfl,rfl,by decide +kernel⟩ ?hw ?hc
 (case hw => w_witness2)
 k_fill
 intros w s₀ s₁ mg mb G Y fa o pm cd doc dV kV ho hd1 hcd hD hmg hg args vals as hpre hlay hrd hwl hlo
 have KX := km_in_of Y
 km_tabs Y
 have X := (Ground.X G).1
 have V := (Ground.X G).2
 refine Ground.open G ?_
 intro T B D TE TW
 try (refine guard_noD D (by decide +kernel) ?_;clear D)
 have e1 := mg_of KX T.g (show nsIn (Mine.hd.heap_1 w.params) mainGlobals (ofString "law") = some (some (.ref 297)) by k_is)
 have e2 : fa = 297 := Value.ref.inj (Option.some.inj (hmg.symm.trans e1))
 subst e2
 clear hmg ho hd1 hcd hD
 wrow_args hpre hlay hrd hwl hlo
 refine enter_call ?_
 rename_i ns _ _ _ _ _ _ l vs _ hL _ _ _ hI _ hc _
 refine Mine.law_good KX hT8 T hL hI ?_ hg _ (fun cls => rfl) ?_
 ·omega
 ·kernel_rfl
