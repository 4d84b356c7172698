import PyProof.Rows.All
import Wide.All
import OpenK.AllK
import Wide.FinOn
import PySem.Challenge.RW_oc0181_01
set_option Elab.async false
namespace Mine
set_option tactic.hygienic false
section
open PySem PySem.W PyProof.Rows
noncomputable def kept (l : List Stmt) : List Stmt := [0,1,3,4,6,7,8,9,10,12,14,15,16,17,18,19,20,21].filterMap fun i => l[i]?
noncomputable def view : Program := { PySem.Challenge.rw_oc0181_01.row.toRowW.prog with main := { PySem.Challenge.rw_oc0181_01.row.toRowW.prog.main with body := kept PySem.Challenge.rw_oc0181_01.row.toRowW.prog.main.body } }
set_option maxRecDepth 100000 in
noncomputable def ohead (H : Hook) (said : PySem.Challenge.rw_oc0181_01.row.wellSaid = true) := fun hl hw hc =>
 holds_open (r := PySem.Challenge.rw_oc0181_01.row) (q := view) (loose := [Str.ofString "_NodeInfo"]) (Xt := fun s => xlAt view [] s && recOk (RowW.records PySem.Challenge.rw_oc0181_01.row.toRowW) s) (XP := XL view []) (Yf := H.obs) (Ya := H.val) (YP := H.says) (N := 3234) hl H.of H.keeps (fun s e => xl_of s (Bool.and_eq_true_iff.mp e).1) XL.keeps (by rfl) (by rfl) (by rfl) (fun s e => recFacts_of (Bool.and_eq_true_iff.mp e).2) (by rfl) said (by decide +kernel) ⟨rfl,rfl,rfl,rfl,rfl,by decide +kernel⟩ hw hc
set_option maxRecDepth 100000 in
theorem olaw : PySem.Challenge.rw_oc0181_01.wellSaid = true := by decide +kernel
local macro_rules | `(tactic| o_law) => `(tactic| refine holds_law olaw fun s => ?_)
local macro_rules | `(tactic| o_head $H) => `(tactic| (refine ohead $H (by assumption) ?hl ?hw ?hc; (case hl => intro w; kernel_rfl)))
set_option maxRecDepth 100000 in
set_option maxHeartbeats 8000000 in
open_top hd for PySem.Challenge.rw_oc0181_01
end
section
theorem mR {α : Type u} {a : α} (l : List α) {m : List α} (h : a ∈ m) : a ∈ l ++ m := List.mem_append_right l h
theorem mL {α : Type u} {a : α} {l : List α} (m : List α) (h : a ∈ l) : a ∈ l ++ m := List.mem_append_left m h
theorem mA {α : Type u} {a : α} {l m : List α} (h : a ∈ l ++ m) : a ∈ l ∨ a ∈ m := List.mem_append.mp h
theorem hide {G : Prop} (h : ∀ g : Prop,(G → g) → g) : G := h G id
theorem noneE {α : Type u} {b : α} {P : Prop} (h : (none : Option α) = some b) : P := nomatch h
theorem ar1 {i n : Nat} (h : i < n) : n + 1 - (i + 1) < n + 1 - i := Nat.sub_lt_sub_left (Nat.lt_succ_of_lt h) (Nat.lt_succ_self i)
theorem ar2 {i n k : Nat} (h : n - i = k + 1) : n - (i + 1) = k := by rw [Nat.sub_succ,h]; rfl
theorem ar3 {i n : Nat} (h : n - i = 0) (h2 : i ≤ n) : i = n := Nat.le_antisymm h2 (Nat.le_of_sub_eq_zero h)
theorem ar4 {i n k : Nat} (h : n - i = k + 1) : i < n := Nat.lt_of_sub_eq_succ h
theorem ar8 {a k l : Nat} (h1 : a ≤ k) (h2 : k + 3 * l ≤ 900) : a ≤ 900 := Nat.le_trans h1 (Nat.le_trans (Nat.le_add_right _ _) h2)
theorem ar5 {a k l c : Nat} (h1 : a ≤ k) (h2 : k + 3 * l ≤ 900) (h3 : c = 9900) : a + 1 + 64 < c := h3 ▸ Nat.lt_of_le_of_lt (Nat.add_le_add_right (ar8 h1 h2) 65) (by decide)
theorem ar6 {a k l c : Nat} (h1 : a ≤ k) (h2 : k + 3 * l ≤ 900) (h3 : c = 9900) : a < c := Nat.lt_of_le_of_lt (Nat.le_add_right _ 65) (ar5 h1 h2 h3)
theorem ar7 {a k l c : Nat} (h1 : a ≤ k) (h2 : k + 3 * l ≤ 900) (h3 : c = 9900) : a + 1 + 1 < c := Nat.lt_of_le_of_lt (Nat.add_le_add_left (by decide : 2 ≤ 65) _) (ar5 h1 h2 h3)
theorem ar9 {a k l : Nat} (h1 : a ≤ k) (h2 : k + 3 * l ≤ 900) : a < 1000 := Nat.lt_of_le_of_lt (ar8 h1 h2) (by decide)
theorem ara {x : Int} (h : 0 ≤ x) : x = (x.toNat : Int) := (Int.toNat_of_nonneg h).symm
theorem arb {x : Int} (h : 0 ≤ x) : (x.toNat : Int) = x := Int.toNat_of_nonneg h
theorem arc {x : Int} {n : Nat} (h : 0 ≤ x) (h2 : x < (n : Int)) : x.toNat < n := (Int.toNat_lt h).mpr h2
theorem ard {x : Int} (h : 0 ≤ x ∧ x < 4) : x = (x.toNat : Int) := ara h.1
theorem are {x : Int} (h : 0 ≤ x ∧ x < 4) : (x.toNat : Int) = x := arb h.1
theorem arf {x : Int} (h : 0 ≤ x ∧ x < 4) : x.toNat < 4 := arc h.1 h.2
theorem arh {x : Nat} (h2 : x < 4) : x = 0 ∨ x = 1 ∨ x = 2 ∨ x = 3 := (by decide : ∀ x : Nat,x < 4 → x = 0 ∨ x = 1 ∨ x = 2 ∨ x = 3) x h2
theorem arg {x : Int} (h : 0 ≤ x) (h2 : x < 4) : x = 0 ∨ x = 1 ∨ x = 2 ∨ x = 3 := by
 obtain ⟨n,rfl⟩ := Int.eq_ofNat_of_zero_le h
 exact (arh (Int.ofNat_lt.mp h2)).imp (congrArg _) fun h => h.imp (congrArg _) fun h => h.imp (congrArg _) (congrArg _)
theorem ari {S a : Int} (h : S.natAbs < 2 ^ 50) (h2 : a.natAbs < 2 ^ 50) : (S + a).natAbs < 2 ^ 53 := Nat.lt_of_le_of_lt (Int.natAbs_add_le S a) (Nat.lt_trans (Nat.add_lt_add h h2) (by decide))
theorem ark {S : Int} (h : S.natAbs < 2 ^ 50) : S.natAbs < 2 ^ 53 := Nat.lt_trans h (by decide)
theorem arl {S : Int} (h : S.natAbs < 2 ^ 50) : (0 + S).natAbs < 2 ^ 53 := (Int.zero_add S).symm ▸ ark h
theorem arm {S : Int} (h : S.natAbs < 2 ^ 50) : (0 + 0 + (0 + S)).natAbs < 2 ^ 53 := (Int.zero_add S).symm ▸ arl h
theorem arn {S a : Int} (h : a.natAbs < 2 ^ 50) : (S + a - S).natAbs < 2 ^ 53 := by rw [Int.add_comm,Int.add_sub_cancel]; exact ark h
theorem ars {a b k : Nat} (h : a + b < k) : a < k := Nat.lt_of_le_of_lt (Nat.le_add_right _ _) h
end
section
open PySem PySem.W PyProof.Rows
theorem fr_stay {h₀ h h' : Heap} {L : Addr} {m : Str → Option Value} (F : Fr h₀ L h m) (k : h.StaysIn h') : Fr h₀ L h' m :=
 ⟨F.ns.keeps k,fun b o e => k b o (F.keep b o e),F.above⟩
theorem news_stay {h₀ h h' : Heap} {L : Addr} {news : List (Addr × Obj)} (N : News h₀ L h news) (k : h.StaysIn h') : News h₀ L h' news :=
 fun p hp => ⟨k _ _ (N p hp).1,(N p hp).2⟩
section
variable {prog : Program} {w : World} {A : Around} {s : Shared} {base h₀ : Heap} {outer : List Env} {K : Frag} {mg mb : Str → Option Value} {p : Program} {loose : List Str}
 {R : Result → Shared → Prop} {name qual : Str} {params : Arguments} {body : List Stmt} {scope : Scope} {dV kV doc pm cdv ct oc : Value} {an od : Option Addr} {osl : Array (Option Value)} {f : Addr} {args : Args} {binds : List (Str × Value)}
theorem enterPC (B : Below A base outer s.heap) (X : K.In s.heap) (T : TopRead p loose mg mb s.heap)
  (ho : K.lookup f = some ⟨oc,od,.func (fnOf name qual params body scope dV kV doc pm an cdv ct),osl⟩) (hcd : codeIn K cdv qual = true) (hroom : A.depth < recursionLimit)
  (hbind : BindsTo s (fnOf name qual params body scope dV kV doc pm an cdv ct) args binds) (hkind : (binds.all fun y => scope.names.lookup y.1 == some .local || scope.names.lookup y.1 == some .cell) = true)
  (hnd : ((cellsFrom 0 scope.names []).map (·.1)).Nodup)
  (h : ∀ L' h₁ tk cells,Fr s.heap L' h₁ (bindL (envOfC qual scope L' f cdv).kindOf binds fun _ => none) → News s.heap L' h₁ cells →
   CellsAre (bindC (envOfC qual scope L' f cdv).kindOf binds fun _ => none) (cellsFrom (L' + 1) scope.names []) cells → Below A base outer s.heap → K.In s.heap → TopRead p loose mg mb s.heap →
   wpAny (model prog w) (A.deeper (envOfC qual scope L' f cdv)) (execs body (envOfC qual scope L' f cdv))
    (fun fl s' => R (.ok (.ret (match fl with | .ret v => v | _ => .none))) s') (fun _ _ => False)
    { s with heap := h₁,toks := tk })
  (hco : scope.isCoroutine = false) (hgen : scope.isGenerator = false) (hk : scope.kind = .function) : codeAny (model prog w) A (.call (.ref f) args) R s := by
 refine codeAny_call_function hroom (X _ _ ho) rfl hco hgen rfl (codeRec_of X hcd) (hbind _ _ _ _ ?_)
 refine wpAny_newFunctionEnv_cells hk (kindsX hkind _) fun env' he s' x => ?_
 subst he
 refine ⟨T.nolimit.keeps x.toInCall.keep,codeAny_func ?_⟩
 obtain ⟨h₁,tk,rfl,_⟩ := x.done
 have hk₁ := x.toInCall.keep
 obtain ⟨cells,NC,Y⟩ := Cl.news (h₀ := s.heap) (Nat.le_refl _) fun n c hm => ⟨x.cell n c (lookup_of_mem_nodup (cellsFrom_names scope.names 0 (s.heap.objs.size + 1) [] [] rfl ▸ hnd) hm),x.above n c hm⟩
 exact wpAny_mono (h s.heap.objs.size h₁ tk cells ⟨x.toInCall.ns,hk₁,Nat.le_refl _⟩ NC Y B X T) (fun _ _ x => x) fun _ _ x => x.elim
end
end
section
open PySem PySem.W PyProof.Rows
section
variable {prog : Program} {w : World} {A : Around} {s : Shared} {env : Env} {h₀ : Heap} {Q : Flow → Shared → Prop}
theorem small_range {a b : Int} (h0 : 0 ≤ a) (h1 : a ≤ b) (h2 : b ≤ 1000) : Builtin.Range.small a b 1 = true ∧ Builtin.Range.rangeSize a b 1 = ((b - a).toNat : Int) := by
 have e : Builtin.Range.rangeSize a b 1 = b - a := by
  unfold Builtin.Range.rangeSize
  rw [if_pos (by decide)]
  split <;> omega
 have f : ∀ x : Int,-5000 ≤ x → x ≤ 5000 → Builtin.Range.rangeFitsLong x = true := fun x ha hb => by
  unfold Builtin.Range.rangeFitsLong
  simp only [Bool.and_eq_true,decide_eq_true_eq]
  lia
 refine ⟨?_,by rw [e]; lia⟩
 unfold Builtin.Range.small
 rw [e,f a (by lia) (by lia),f b (by lia) (by lia),f 1 (by exact Int.natCast_nonneg _) (by exact Int.natCast_nonneg _),f (b - a) (by lia) (by lia)]
 simp only [Bool.true_and,Bool.or_eq_true,Int.zero_lt_one,if_true,gt_iff_lt]
 exact .inr (f _ (by lia) (by lia))
end
noncomputable def Stop (P : Prop) : Prop := P
theorem Stop.mk {P : Prop} (h : P) : Stop P := h
theorem For_stop {M : Model} {A : Around} {E : Value → Shared → Prop} {s : Shared} {env : Env} {target iter : Expr} {body : List Stmt} {pos : Pos} {Q : Flow → Shared → Prop}
  (h : wpAny M A (eval iter env) (fun x s₁ => Stop (wpAny M A (pyIter x) (fun it s₂ =>
   codeAny M A (.forLoop target it body [] env) (fun r s' => match r with | .ok f => Q f s' | .error e => cameBackBy M A env E e s') s₂) E s₁)) E s)
  (hs : ∀ x,foldedSetIterable iter env x = pure x := by intro _; rfl) :
  wpAny M A (exec (.For target iter body [] pos) env) Q E s := wpAny_For h hs
end
section
open PySem PySem.W PyProof.Rows
section
variable {prog : Program} {w : World} {A : Around} {E : Value → Shared → Prop} {s : Shared}
theorem item_list {value slice : Expr} {l : Addr} {vs : List Value} {k : Int} {u : Tok} {v : Value} {Q : Value → Shared → Prop}
  (hl : s.heap.IsList l vs.toArray) (h0 : 0 ≤ k) (hhi : k < 2 ^ 63) (hx : vs[k.toNat]? = some v) (h : Q v s)
  (hs : subscripted slice false (.ref l) (.int k u) = operate [.ref l,.int k u] (getItem (.ref l) (.int k u)) := by with_unfolding_all rfl) :
  wpAny (model prog w) A (subscriptTail value slice (.ref l) (.int k u)) Q E s :=
 tail_any hl.typeIs slot_list_getitem.lookup (wpAny_getItem_list hl h0 hhi (by simpa using hx) h) hs
end
end
section
open PySem PySem.W PySem.Calls PyProof.Rows
noncomputable abbrev cellNone : Obj := { cls := .type "cell",data := .cell none }
noncomputable def cellNews (n : Nat) : List (Str × NameKind) → List (Addr × Obj)
 | [] => []
 | (_,k) :: r => if k == .cell then (n,cellNone) :: cellNews (n + 1) r else cellNews n r
theorem cellNews_at : ∀ (names : List (Str × NameKind)) (h : Heap),∀ p ∈ cellNews h.objs.size names,(pushCells h names).get? p.1 = some p.2 ∧ h.objs.size ≤ p.1
 | [],_,_,hp => nomatch hp
 | (_,kind) :: r,h,p,hp => by
  unfold cellNews at hp
  unfold pushCells
  split
  ·rename_i hk
   rw [if_pos hk] at hp
   rcases List.mem_cons.mp hp with rfl | hp
   ·exact ⟨pushCells_keeps r _ _ _ (Heap.get?_push_size _ rfl),Nat.le_refl _⟩
   ·have := cellNews_at r (h.push cellNone) p (by rw [Heap.size_push]; exact hp)
    rw [Heap.size_push] at this
    exact ⟨this.1,by lia⟩
  ·rename_i hk
   rw [if_neg hk] at hp
   exact cellNews_at r h p hp
inductive CEnd (h₁ : Heap) (C I : Addr) (io : Obj) (D : Addr) (no : Nat) (ys : List Value) (Jn : (Str → Option Value) → List (Addr × Obj) → Prop) (s₁ s₃ : Shared) : Prop
 | mk (h' : Heap) (tk : Nat) (m' : Str → Option Value) (news' : List (Addr × Obj)) : s₃ = { s₁ with heap := h',toks := tk } → Fr h₁ C h' m' → News h₁ C h' ((I,io) :: (D,PySem.W.listOf ys.toArray no) :: news') → (∀ p ∈ news',p.1 ≠ I ∧ p.1 ≠ D) → Jn m' news' → CEnd h₁ C I io D no ys Jn s₁ s₃
theorem cend_intro {h₁ h' : Heap} {C I D : Addr} {io : Obj} {no tk : Nat} {ys : List Value} {Jn : (Str → Option Value) → List (Addr × Obj) → Prop} {s₁ : Shared} {m' : Str → Option Value} {news' : List (Addr × Obj)}
  (F : Fr h₁ C h' m') (N : News h₁ C h' ((I,io) :: (D,PySem.W.listOf ys.toArray no) :: news')) (hd : ∀ p ∈ news',p.1 ≠ I ∧ p.1 ≠ D) (hj : Jn m' news') : CEnd h₁ C I io D no ys Jn s₁ { s₁ with heap := h',toks := tk } :=
 ⟨h',tk,m',news',rfl,F,N,hd,hj⟩
inductive CmI (h₁ : Heap) (C I D : Addr) (St : Nat → Heap → Prop) (n : Nat) (J : Nat → List Value → (Str → Option Value) → List (Addr × Obj) → Prop) (s : Shared) (k : Nat) (s' : Shared) : Prop
 | mk (h' : Heap) (tk : Nat) (m' : Str → Option Value) (news' : List (Addr × Obj)) (ys : List Value) (no i : Nat) : s' = { s with heap := h',toks := tk } → St i h' → Fr h₁ C h' m' → News h₁ C h' ((D,PySem.W.listOf (List.toArray ys) no) :: news') → (∀ p ∈ news',p.1 ≠ I ∧ p.1 ≠ D) → J i ys m' news' → i ≤ n → k = n + 1 - i → CmI h₁ C I D St n J s k s'
section
variable {prog : Program} {w : World} {A : Around} {s : Shared} {env : Env} {h₁ : Heap}
theorem comp_loop {elt target iter : Expr} {ifs : List Expr} {scope : Scope} {pos : Pos} {I D : Addr} {fp : List Addr} {n : Nat} {P : Nat → Value → Prop} {St : Nat → Heap → Prop} {cenv : Env} {m : Str → Option Value} {news : List (Addr × Obj)} {no : Nat}
  {R : Result → Shared → Prop}
  (Wk : Walks prog w A I fp [I] n P St) (hlive : ∀ i h,St i h → ∃ o,h.get? I = some o) (hst : St 0 s.heap) (F : Fr h₁ cenv.locals s.heap m) (hI0 : h₁.get? I = none) (hID : I ≠ D)
  (hIC : cenv.locals ≠ I)
  (N : News h₁ cenv.locals s.heap ((D,PySem.W.listOf ([] : List Value).toArray no) :: news)) (hnw : ∀ p ∈ news,p.1 ≠ I ∧ p.1 ≠ D)
  (J : Nat → List Value → (Str → Option Value) → List (Addr × Obj) → Prop) (h0 : J 0 [] m news) (hys : ∀ i ys m₁ news₁,J i ys m₁ news₁ → ys.length ≤ 1000)
  (hfp : ∀ i ys m₁ news₁ h h' io,J i ys m₁ news₁ → Fr h₁ cenv.locals h m₁ → News h₁ cenv.locals h ((I,io) :: news₁) → St i h' → h'.get? I = some io → St i h)
  (turn : ∀ i v ys m₁ news₁ io h tk no,i < n → P i v → J i ys m₁ news₁ → (∀ p ∈ news₁,p.1 ≠ I ∧ p.1 ≠ D) → Fr h₁ cenv.locals h m₁ → News h₁ cenv.locals h ((I,io) :: (D,PySem.W.listOf ys.toArray no) :: news₁) →
   wpAny (model prog w) A (assign target cenv v) (fun _ s₂ =>
    wpAny (model prog w) A (forIn ifs true fun c r => if r = true then do let ok ← isTrue c cenv (eval c cenv); pure (ForInStep.yield ok) else pure (ForInStep.yield r)) (fun ok s₃ =>
     if ok = true then wpAny (model prog w) A (eval elt cenv) (fun y s₄ => CEnd h₁ cenv.locals I io D no ys (J (i + 1) (ys ++ [y])) { s with heap := h,toks := tk } s₄) (fun _ _ => False) s₃
     else CEnd h₁ cenv.locals I io D no ys (J (i + 1) ys) { s with heap := h,toks := tk } s₃) (fun _ _ => False) s₂) (fun _ _ => False) { s with heap := h,toks := tk })
  (done : ∀ ys m₁ news₁ h tk no,J n ys m₁ news₁ → (∀ p ∈ news₁,p.1 ≠ I ∧ p.1 ≠ D) → Fr h₁ cenv.locals h m₁ → News h₁ cenv.locals h ((D,PySem.W.listOf ys.toArray no) :: news₁) → R (.ok .next) { s with heap := h,toks := tk })
  (ht : ∀ v,letOwnedTupleGo target (.ref I) v = pure ()) :
  codeAny (model prog w) A (.compLoop (.ListComp elt [⟨target,iter,ifs,0⟩] scope pos) 0 (.ref I) (.ref D) cenv) R s := by
 refine codeAny_compLoop_tests
  (CmI h₁ cenv.locals I D St n J s) ?_ (n + 1)
  ⟨s.heap,s.toks,m,news,[],no,0,rfl,hst,F,N,hnw,h0,Nat.zero_le _,rfl⟩ ht
 rintro k s' ⟨h',tk,m',news',ys,no',i,rfl,hst',F',N',hnw',hJ,hi,rfl⟩
 have hDI : ∀ p ∈ ((D,PySem.W.listOf (List.toArray ys) no') :: news' : List (Addr × Obj)),p.1 ≠ I := fun p hp => by
  rcases List.mem_cons.mp hp with rfl | hp
  ·exact Ne.symm hID
  ·exact (hnw' p hp).1
 have nx : ∀ h₂ : Heap,(∀ b o,b ∉ [I] → h'.get? b = some o → h₂.get? b = some o) → Fr h₁ cenv.locals h₂ m' ∧ News h₁ cenv.locals h₂ ((D,PySem.W.listOf (List.toArray ys) no') :: news') := fun h₂ hk₂ =>
  ⟨⟨F'.ns.at' fun o e => hk₂ _ o (by simpa using hIC) e,fun b o e => hk₂ b o (fun q => by rw [List.mem_singleton.mp q,hI0] at e; cases e) (F'.keep b o e),F'.above⟩,fun p hp => ⟨hk₂ _ _ (by simpa using hDI p hp) (N' p hp).1,(N' p hp).2⟩⟩
 by_cases hlt : i < n
 ·refine Wk.item i _ _ _ hlt hst' fun v h₂ tk₂ hP hst₂ hk₂ => ?_
  obtain ⟨F₂,N₂⟩ := nx h₂ hk₂
  obtain ⟨io,hio⟩ := hlive _ _ hst₂
  have N₃ : News h₁ cenv.locals h₂ ((I,io) :: (D,PySem.W.listOf (List.toArray ys) no') :: news') := fun p hp => by
   rcases List.mem_cons.mp hp with rfl | hp
   ·exact ⟨hio,Ne.symm hIC,hI0⟩
   ·exact N₂ p hp
  refine wpAny_mono (turn i v ys m' news' io h₂ tk₂ no' hlt hP hJ hnw' F₂ N₃) (fun _ s₂ h₂' => ?_) fun _ _ e => e.elim
  refine wpAny_mono h₂' (fun ok s₃ h₃ => ?_) fun _ _ e => e.elim
  cases ok with
  | false =>
   obtain ⟨h₄,tk₄,m₄,news₄,rfl,F₄,N₄,ha₄,hJ₄⟩ := h₃
   exact ⟨n + 1 - (i + 1),by exact ar1 ‹_›,h₄,tk₄,m₄,news₄,ys,no',i + 1,rfl,hfp _ _ _ _ _ _ _ hJ₄ F₄ (fun p hp => N₄ p (by
    rcases List.mem_cons.mp hp with rfl | hp
    ·exact .head _
    ·exact .tail _ (.tail _ hp))) hst₂ hio,F₄,fun p hp => N₄ p (.tail _ hp),ha₄,hJ₄,hlt,rfl⟩
  | true =>
   refine wpAny_mono h₃ (fun y s₄ h₄ => ?_) fun _ _ e => e.elim
   obtain ⟨h₄,tk₄,m₄,news₄,rfl,F₄,N₄,ha₄,hJ₄⟩ := h₄
   have hD := N₄ (D,PySem.W.listOf (List.toArray ys) no') (.tail _ (.head _))
   have hl := hys _ _ _ _ hJ
   refine wpAny_list_append_plain (items := ys.toArray) (hsz := by rw [List.size_toArray]; exact Nat.le_trans hl (by decide)) ⟨no',hD.1⟩ fun h₅ hl₅ hs₅ => ?_
   obtain ⟨no₅,hD₅⟩ := hl₅
   have e5 : (ys.toArray.push y) = (ys ++ [y]).toArray := by simp
   rw [e5] at hD₅
   have F₅ : Fr h₁ cenv.locals h₅ m₄ := ⟨F₄.ns.sameBut hs₅ (Ne.symm hD.2.1),fun b o e => (hs₅.2 b (fun q => by rw [q,hD.2.2] at e; cases e)).trans (F₄.keep b o e),F₄.above⟩
   have N₅ : News h₁ cenv.locals h₅ ((D,PySem.W.listOf (ys ++ [y]).toArray no₅) :: news₄) := fun p hp => by
    rcases List.mem_cons.mp hp with rfl | hp
    ·exact ⟨hD₅,hD.2⟩
    ·have q := N₄ p (.tail _ (.tail _ hp))
     exact ⟨(hs₅.2 _ (ha₄ p hp).2).trans q.1,q.2⟩
   have hI₅ : h₅.get? I = some io := (hs₅.2 _ hID).trans (N₄ _ (.head _)).1
   refine ⟨n + 1 - (i + 1),by exact ar1 ‹_›,h₅,tk₄,m₄,news₄,ys ++ [y],no₅,i + 1,rfl,hfp _ _ _ _ _ _ io hJ₄ F₅ (fun p hp => ?_) hst₂ hio,F₅,N₅,ha₄,hJ₄,hlt,rfl⟩
   rcases List.mem_cons.mp hp with rfl | hp
   ·exact ⟨hI₅,Ne.symm hIC,hI0⟩
   ·exact N₅ p (.tail _ hp)
 ·have hin : i = n := by lia
  subst hin
  refine Wk.done _ _ _ hst' fun h₂ tk₂ hk₂ => ?_
  obtain ⟨F₂,N₂⟩ := nx h₂ hk₂
  exact done ys m' news' h₂ tk₂ no' hJ hnw' F₂ N₂
noncomputable def CompAt (prog : Program) (w : World) (A : Around) (elt target iter : Expr) (ifs : List Expr) (scope : Scope) (pos : Pos) (cl : List (Str × Addr)) (env : Env) (use : Option (Value → Sem Unit)) (Q : Value → Shared → Prop) (xv : Value) (s₁ : Shared) : Prop :=
 wpAny (model prog w) A (pyIter xv) (fun it s₂ => wpAny (model prog w) A (newList []) (fun acc s₃ =>
   wpAny (model prog w) A (newFunctionEnv scope env.globals cl [] env.qual none .none (some env)) (fun cenv s₄ =>
    codeAny (model prog w) A (.compStart (.ListComp elt [⟨target,iter,ifs,0⟩] scope pos) 0 it acc { cenv with scope := relabel scope env }) (compPost (model prog w) A (fun _ _ => False) use Q acc cenv.locals) s₄) (fun _ _ => False) s₃) (fun _ _ => False) s₂) (fun _ _ => False) s₁
theorem comp_stop {elt target iter : Expr} {ifs : List Expr} {scope : Scope} {pos : Pos} {cl : List (Str × Addr)} {Q : Value → Shared → Prop}
  (hclos : closureFor scope env = pure cl) (hkind : scope.kind = .function)
  (hnames : ∀ y ∈ scope.names,y.2 = .local → scope.names.lookup y.1 = some .local)
  (h : wpAny (model prog w) A (eval iter env) (fun xv s₁ => CompAt prog w A elt target iter ifs scope pos cl env none Q xv s₁) (fun _ _ => False) s)
  (hs : ∀ x,foldedSetIterable iter env x = pure x := by intro _; rfl) :
  wpAny (model prog w) A (eval (.ListComp elt [⟨target,iter,ifs,0⟩] scope pos) env) Q (fun _ _ => False) s := by
 rw [eval_ListComp]
 exact wpAny_comprehension_free (use := none) rfl hs hclos hkind hnames h
theorem comp_assign {elt target iter : Expr} {ifs : List Expr} {scope : Scope} {pos spos py : Pos} {y : Str} {cl : List (Str × Addr)} {Q : Flow → Shared → Prop}
  (hsw : swapsWith (.ListComp elt [⟨target,iter,ifs,0⟩] scope pos) (some (.Name y py)) spos.line env = pure true)
  (hclos : closureFor scope env = pure cl) (hkind : scope.kind = .function)
  (hnames : ∀ y ∈ scope.names,y.2 = .local → scope.names.lookup y.1 = some .local)
  (h : wpAny (model prog w) A (eval iter env) (fun xv s₁ => CompAt prog w A elt target iter ifs scope pos cl env (some (assign (.Name y py) env)) (fun _ s' => Q .next s') xv s₁) (fun _ _ => False) s)
  (hs : ∀ x,foldedSetIterable iter env x = pure x := by intro _; rfl) :
  wpAny (model prog w) A (exec (.Assign [.Name y py] (.ListComp elt [⟨target,iter,ifs,0⟩] scope pos) spos) env) Q (fun _ _ => False) s := by
 rw [exec_Assign_Name_used _ _ _ _ hsw]
 refine wpAny_bind (wpAny_standAt (wpAny_bind ?_))
 show wpAny _ A (do let _ ← comprehension (.ListComp elt [⟨target,iter,ifs,0⟩] scope pos) scope env _ (newList []) false (eval iter env) (some (assign (.Name y py) env))) _ _ s
 exact wpAny_bind (wpAny_mono (wpAny_comprehension_free (use := some (assign (.Name y py) env)) (Q := fun _ s' => Q .next s') rfl hs hclos hkind hnames h) (fun _ s' hq => wpAny_pure (wpAny_pure hq)) fun _ _ e => e)
theorem comp_block {elt target iter : Expr} {ifs : List Expr} {scope : Scope} {pos : Pos} {cl : List (Str × Addr)} {use : Option (Value → Sem Unit)} {Q : Value → Shared → Prop} {I : Addr} {fp : List Addr} {n : Nat} {P : Nat → Value → Prop} {St : Nat → Heap → Prop}
  (Wk : Walks prog w A I fp [I] n P St) (hlive : ∀ i h,St i h → ∃ o,h.get? I = some o) (hst : St 0 s.heap) (hk₁ : h₁.StaysIn s.heap) (hI : I = h₁.objs.size) (hsz : s.heap.objs.size = h₁.objs.size + 1)
  (hkind : scope.kind = .function)
  (J : Addr → Nat → List Value → (Str → Option Value) → List (Addr × Obj) → Prop) (h0 : ∀ C,J C 0 [] (fun _ => none) (cellNews (C + 1) scope.names)) (hys : ∀ C i ys m₁ news₁,J C i ys m₁ news₁ → ys.length ≤ 1000)
  (hfp : ∀ C i ys m₁ news₁ h h' io,J C i ys m₁ news₁ → Fr h₁ C h m₁ → News h₁ C h ((I,io) :: news₁) → St i h' → h'.get? I = some io → St i h)
  (turn : ∀ C D i v ys m₁ news₁ io h tk no,i < n → P i v → J C i ys m₁ news₁ → (∀ p ∈ news₁,p.1 ≠ I ∧ p.1 ≠ D) → Fr h₁ C h m₁ → News h₁ C h ((I,io) :: (D,PySem.W.listOf ys.toArray no) :: news₁) →
   wpAny (model prog w) A (assign target (compEnvC scope (cellsFrom (C + 1) scope.names cl) C env) v) (fun _ s₂ =>
    wpAny (model prog w) A (forIn ifs true fun c r => if r = true then do let ok ← isTrue c (compEnvC scope (cellsFrom (C + 1) scope.names cl) C env) (eval c (compEnvC scope (cellsFrom (C + 1) scope.names cl) C env)); pure (ForInStep.yield ok) else pure (ForInStep.yield r)) (fun ok s₃ =>
     if ok = true then wpAny (model prog w) A (eval elt (compEnvC scope (cellsFrom (C + 1) scope.names cl) C env)) (fun y s₄ => CEnd h₁ C I io D no ys (J C (i + 1) (ys ++ [y])) { s with heap := h,toks := tk } s₄) (fun _ _ => False) s₃
     else CEnd h₁ C I io D no ys (J C (i + 1) ys) { s with heap := h,toks := tk } s₃) (fun _ _ => False) s₂) (fun _ _ => False) { s with heap := h,toks := tk })
  (done : ∀ C D ys m₁ news₁ h tk no,J C n ys m₁ news₁ → (∀ p ∈ news₁,p.1 ≠ D) → Fr h₁ C h m₁ → News h₁ C h ((D,PySem.W.listOf ys.toArray no) :: news₁) → compPost (model prog w) A (fun _ _ => False) use Q (.ref D) C (.ok .next) { s with heap := h,toks := tk })
  (ht : ∀ v,letOwnedTupleGo target (.ref I) v = pure ()) :
  wpAny (model prog w) A (newList []) (fun acc s₃ =>
   wpAny (model prog w) A (newFunctionEnv scope env.globals cl [] env.qual none .none (some env)) (fun cenv s₄ =>
    codeAny (model prog w) A (.compStart (.ListComp elt [⟨target,iter,ifs,0⟩] scope pos) 0 (.ref I) acc { cenv with scope := relabel scope env }) (compPost (model prog w) A (fun _ _ => False) use Q acc cenv.locals) s₄) (fun _ _ => False) s₃) (fun _ _ => False) s := by
 refine wpAny_newObj_type ?_
 simp only [newFunctionEnv,Option.isSome_some,if_true]
 refine wpAny_bind (wpAny_alloc ?_)
 refine wpAny_bind (wpAny_layCells _ (fun name kind cells => by cases hkc : kind == NameKind.cell <;> simp [hkc]) _ _ _ _ ?_)
 refine wpAny_bind ?_
 rw [List.forIn_nil]
 refine wpAny_pure (wpAny_pure ?_)
 dsimp only
 have sz2 : (s.heap.push { cls := .type "list",dict := none,data := .seq ([] : List Value).toArray } : Heap).objs.size = h₁.objs.size + 2 := by rw [Heap.size_push,hsz]
 have sz3 : ((s.heap.push { cls := .type "list",dict := none,data := .seq ([] : List Value).toArray } : Heap).push { cls := .type "dict",data := .dict #[] } : Heap).objs.size = h₁.objs.size + 2 + 1 := by rw [Heap.size_push,sz2]
 rw [sz2,sz3,hsz]
 generalize hH2 : (s.heap.push { cls := .type "list",dict := none,data := .seq ([] : List Value).toArray } : Heap) = H2 at sz2 sz3 ⊢
 generalize hH4 : pushCells (H2.push { cls := .type "dict",data := .dict #[] }) scope.names = H4
 have k2 : s.heap.StaysIn H2 := fun b o e => hH2 ▸ Heap.get?_push_of_some _ e
 have k4 : (H2.push { cls := .type "dict",data := .dict #[] }).StaysIn H4 := fun b o e => hH4 ▸ pushCells_keeps _ _ b o e
 have k24 : H2.StaysIn H4 := fun b o e => k4 b o (Heap.get?_push_of_some _ e)
 have ks : s.heap.StaysIn H4 := fun b o e => k24 b o (k2 b o e)
 have hD : H4.get? (h₁.objs.size + 1) = some (PySem.W.listOf ([] : List Value).toArray 0) := k24 _ _ (by rw [← hH2,← hsz]; exact Heap.get?_push_size _ rfl)
 have hC : H4.Ns (h₁.objs.size + 2) (fun _ => none) := by rw [← sz2]; exact (Heap.Ns.new H2 (.type "dict")).keeps k4
 have fresh : ∀ b,h₁.objs.size ≤ b → h₁.get? b = none := fun b hb => by
  cases q : h₁.get? b with
  | none => rfl
  | some o => exact absurd (Heap.lt_size q) (Nat.not_lt.mpr hb)
 have F4 : Fr h₁ (h₁.objs.size + 2) H4 (fun _ => none) := ⟨hC,fun b o e => ks b o (hk₁ b o e),by exact Nat.le_add_right _ _⟩
 have hcn : ∀ p ∈ cellNews (h₁.objs.size + 2 + 1) scope.names,H4.get? p.1 = some p.2 ∧ h₁.objs.size + 2 + 1 ≤ p.1 := fun p hp => by
  have := cellNews_at scope.names (H2.push { cls := .type "dict",data := .dict #[] }) p (by rw [sz3]; exact hp)
  rw [sz3,hH4] at this
  exact this
 have N4 : News h₁ (h₁.objs.size + 2) H4 ((h₁.objs.size + 1,PySem.W.listOf ([] : List Value).toArray 0) :: cellNews (h₁.objs.size + 2 + 1) scope.names) := fun p hp => by
  rcases List.mem_cons.mp hp with rfl | hp
  ·exact ⟨hD,neN (by show h₁.objs.size + 1 ≠ h₁.objs.size + 2; simp),fresh _ (Nat.le_succ _)⟩
  ·obtain ⟨a,b⟩ := hcn p hp
   exact ⟨a,neN (by exact Nat.ne_of_gt ‹_›),fresh _ (Nat.le_trans (Nat.le_add_right _ 3) b)⟩
 have hIne : ∀ p ∈ cellNews (h₁.objs.size + 2 + 1) scope.names,p.1 ≠ I ∧ p.1 ≠ h₁.objs.size + 1 := fun p hp => by
  have b := (hcn p hp).2
  rw [hI]
  exact ⟨neN (by lia),neN (by lia)⟩
 have loop : codeAny (model prog w) A (.compLoop (.ListComp elt [⟨target,iter,ifs,0⟩] scope pos) 0 (.ref I) (.ref (h₁.objs.size + 1)) (compEnvC scope (cellsFrom (h₁.objs.size + 2 + 1) scope.names cl) (h₁.objs.size + 2) env))
   (compPost (model prog w) A (fun _ _ => False) use Q (.ref (h₁.objs.size + 1)) (h₁.objs.size + 2)) { s with heap := H4 } := by
  refine comp_loop (s := { s with heap := H4 }) (cenv := compEnvC scope (cellsFrom (h₁.objs.size + 2 + 1) scope.names cl) (h₁.objs.size + 2) env) (m := fun _ => none) (news := cellNews (h₁.objs.size + 2 + 1) scope.names)
   Wk hlive (Wk.frame _ _ _ hst fun b _ o e => ks b o e) F4 (by rw [hI]; exact fresh _ (Nat.le_refl _)) (by rw [hI]; exact neN (by simp)) (show h₁.objs.size + 2 ≠ I by rw [hI]; exact neN (by simp)) N4 hIne (J (h₁.objs.size + 2)) (h0 _) (hys _) (fun i ys m₁ news₁ h h' io => hfp _ i ys m₁ news₁ h h' io)
   (fun i v ys m₁ news₁ io h tk no => turn (h₁.objs.size + 2) (h₁.objs.size + 1) i v ys m₁ news₁ io h tk no) (fun ys m₁ news₁ h tk no hJ hne F5 N5 => ?_) ht
  exact done (h₁.objs.size + 2) (h₁.objs.size + 1) ys m₁ news₁ h tk no hJ (fun p hp => (hne p hp).2) F5 N5
 exact codeAny_compStart_list loop (Wk.self 0 _ _ _ (Wk.frame _ _ _ hst fun b _ o e => ks b o e) loop)
theorem comp_list {elt target iter : Expr} {ifs : List Expr} {scope : Scope} {pos : Pos} {cl : List (Str × Addr)} {use : Option (Value → Sem Unit)} {Q : Value → Shared → Prop} {l : Addr} {vs : List Value}
  (J : Addr → Nat → List Value → (Str → Option Value) → List (Addr × Obj) → Prop) (hh : A.handled = none) (hl : s.heap.IsList l vs.toArray)
  (hkind : scope.kind = .function) (h0 : ∀ C,J C 0 [] (fun _ => none) (cellNews (C + 1) scope.names)) (hys : ∀ C i ys m₁ news₁,J C i ys m₁ news₁ → ys.length ≤ 1000)
  (turn : ∀ C D I (i : Nat) v ys m₁ news₁ io h tk no,vs[i]? = some v → J C i ys m₁ news₁ → (∀ p ∈ news₁,p.1 ≠ I ∧ p.1 ≠ D) → Fr s.heap C h m₁ → News s.heap C h ((I,io) :: (D,PySem.W.listOf (List.toArray ys) no) :: news₁) →
   wpAny (model prog w) A (assign target (compEnvC scope (cellsFrom (C + 1) scope.names cl) C env) v) (fun _ s₂ =>
    wpAny (model prog w) A (forIn ifs true fun c r => if r = true then do let ok ← isTrue c (compEnvC scope (cellsFrom (C + 1) scope.names cl) C env) (eval c (compEnvC scope (cellsFrom (C + 1) scope.names cl) C env)); pure (ForInStep.yield ok) else pure (ForInStep.yield r)) (fun ok s₃ =>
     if ok = true then wpAny (model prog w) A (eval elt (compEnvC scope (cellsFrom (C + 1) scope.names cl) C env)) (fun y s₄ => CEnd s.heap C I io D no ys (J C (i + 1) (ys ++ [y])) { s with heap := h,toks := tk } s₄) (fun _ _ => False) s₃
     else CEnd s.heap C I io D no ys (J C (i + 1) ys) { s with heap := h,toks := tk } s₃) (fun _ _ => False) s₂) (fun _ _ => False) { s with heap := h,toks := tk })
  (done : ∀ C D ys m₁ news₁ h tk no,J C vs.length ys m₁ news₁ → (∀ p ∈ news₁,p.1 ≠ D) → Fr s.heap C h m₁ → News s.heap C h ((D,PySem.W.listOf (List.toArray ys) no) :: news₁) → compPost (model prog w) A (fun _ _ => False) use Q (.ref D) C (.ok .next) { s with heap := h,toks := tk })
  (ht : ∀ I v,letOwnedTupleGo target (.ref I) v = pure () := by intro _ _; rfl) :
  CompAt prog w A elt target iter ifs scope pos cl env use Q (.ref l) s := by
 have hne : l ≠ s.heap.objs.size := fun e => by
  obtain ⟨o,ho,_⟩ := hl
  rw [e] at ho
  exact absurd (Heap.lt_size ho) (Nat.lt_irrefl _)
 unfold CompAt
 refine wpAny_pyIter_list hl ?_
 have Wk := Walks.list (prog := prog) (w := w) hh s.heap.objs.size l hne vs.toArray
 have hlen : vs.toArray.size = vs.length := by simp
 rw [hlen] at Wk
 refine comp_block (h₁ := s.heap) Wk (fun i h st => by obtain ⟨⟨o,ho,_⟩,_⟩ := st; exact ⟨o,ho⟩) ⟨⟨_,Heap.get?_push_size _ rfl,rfl,rfl⟩,hl.at fun o e => Heap.get?_push_of_some _ e⟩ (fun b o e => Heap.get?_push_of_some _ e) rfl (Heap.size_push _ _) hkind J h0 hys ?_
  (fun C D i v ys m₁ news₁ io h tk no _ hP => turn C D _ i v ys m₁ news₁ io h tk no (by simpa using hP)) done (ht _)
 intro C i ys m₁ news₁ h h' io hJ F₁ N₁ st hio
 refine ⟨?_,hl.at fun o e => F₁.keep _ o e⟩
 obtain ⟨o,ho,r⟩ := st.1
 rw [hio] at ho
 cases ho
 exact ⟨io,(N₁ _ (.head _)).1,r⟩
theorem comp_range {elt target iter : Expr} {ifs : List Expr} {scope : Scope} {pos : Pos} {cl : List (Str × Addr)} {use : Option (Value → Sem Unit)} {Q : Value → Shared → Prop} {r : Addr} {a b : Int} {t u v : Tok}
  (J : Addr → Nat → List Value → (Str → Option Value) → List (Addr × Obj) → Prop) (hh : A.handled = none) (hr : IsRange s.heap r a b 1 t u v) (ha : 0 ≤ a) (hab : a ≤ b) (hb : b ≤ 1000)
  (hkind : scope.kind = .function) (h0 : ∀ C,J C 0 [] (fun _ => none) (cellNews (C + 1) scope.names)) (hys : ∀ C i ys m₁ news₁,J C i ys m₁ news₁ → ys.length ≤ 1000)
  (turn : ∀ C D I (i : Nat) tk₀ ys m₁ news₁ io h tk no,i < (b - a).toNat → J C i ys m₁ news₁ → (∀ p ∈ news₁,p.1 ≠ I ∧ p.1 ≠ D) → Fr s.heap C h m₁ → News s.heap C h ((I,io) :: (D,PySem.W.listOf (List.toArray ys) no) :: news₁) →
   wpAny (model prog w) A (assign target (compEnvC scope (cellsFrom (C + 1) scope.names cl) C env) (.int (a + i) tk₀)) (fun _ s₂ =>
    wpAny (model prog w) A (forIn ifs true fun c r => if r = true then do let ok ← isTrue c (compEnvC scope (cellsFrom (C + 1) scope.names cl) C env) (eval c (compEnvC scope (cellsFrom (C + 1) scope.names cl) C env)); pure (ForInStep.yield ok) else pure (ForInStep.yield r)) (fun ok s₃ =>
     if ok = true then wpAny (model prog w) A (eval elt (compEnvC scope (cellsFrom (C + 1) scope.names cl) C env)) (fun y s₄ => CEnd s.heap C I io D no ys (J C (i + 1) (ys ++ [y])) { s with heap := h,toks := tk } s₄) (fun _ _ => False) s₃
     else CEnd s.heap C I io D no ys (J C (i + 1) ys) { s with heap := h,toks := tk } s₃) (fun _ _ => False) s₂) (fun _ _ => False) { s with heap := h,toks := tk })
  (done : ∀ C D ys m₁ news₁ h tk no,J C (b - a).toNat ys m₁ news₁ → (∀ p ∈ news₁,p.1 ≠ D) → Fr s.heap C h m₁ → News s.heap C h ((D,PySem.W.listOf (List.toArray ys) no) :: news₁) → compPost (model prog w) A (fun _ _ => False) use Q (.ref D) C (.ok .next) { s with heap := h,toks := tk })
  (ht : ∀ I v,letOwnedTupleGo target (.ref I) v = pure () := by intro _ _; rfl) :
  CompAt prog w A elt target iter ifs scope pos cl env use Q (.ref r) s := by
 obtain ⟨hsmall,hsize⟩ := small_range ha hab hb
 unfold CompAt
 refine wpAny_pyIter_range hr hsmall ?_
 have Wk := Walks.range (prog := prog) (w := w) hh s.heap.objs.size a 1 (b - a).toNat
 refine comp_block (h₁ := s.heap) Wk (fun i h st => ⟨_,st⟩) (by
   have e1 : a + ((0 : Nat) : Int) * 1 = a := by simp
   have e2 : ((b - a).toNat : Int) - ((0 : Nat) : Int) = (b - a).toNat := by exact rfl
   show IsRangeIter _ _ (a + ((0 : Nat) : Int) * 1) (((b - a).toNat : Int) - ((0 : Nat) : Int)) 1
   rw [hsize,e1,e2]; exact Heap.get?_push_size _ rfl) (fun b o e => Heap.get?_push_of_some _ e) rfl (Heap.size_push _ _) hkind J h0 hys ?_
  (fun C D i v ys m₁ news₁ io h tk no hi hP => by
   obtain ⟨t',rfl⟩ := hP
   rw [Int.mul_one]
   exact turn C D _ i t' ys m₁ news₁ io h tk no hi) done (ht _)
 intro C i ys m₁ news₁ h h' io hJ F₁ N₁ st hio
 have e : some io = some _ := hio.symm.trans st
 cases e
 exact (N₁ _ (.head _)).1
end
section
variable {M : Model} {A : Around} {E : Value → Shared → Prop} {s : Shared} {K : Frag} {h₀ : Heap} {L : Addr} {m mg mb : Str → Option Value} {env : Env} {p : Program} {loose : List Str}
 {x : Str} {pos : Pos} {v : Value} {Q : Value → Shared → Prop} {news : List (Addr × Obj)} {c : Addr} {o : Obj}
theorem nmL (F : Fr h₀ env.locals s.heap m) (hv : m x = some v) (h : Q v s) (hk : env.scope.kind = .function) (hx : env.kindOf x = some .local) (hd : (x == ("__debug__" : Str)) = false) :
  wpAny M A (eval (.Name x pos) env) Q E s := wpAny_Name (wpAny_loadName_local hk hx F.ns hv h) hd
theorem nmC (N : News h₀ L s.heap news) (hc : env.cells.lookup x = some c) (hm : (c,o) ∈ news) (ho : o.data = .cell (some v)) (h : Q v s) (hk : env.scope.kind = .function) (hx : env.kindOf x = some .cell) (hd : (x == ("__debug__" : Str)) = false) :
  wpAny M A (eval (.Name x pos) env) Q E s := wpAny_Name (wpAny_loadName_cell hk hx hc ⟨o,N.get hm,ho⟩ h) hd
theorem nmCB (F : Fr h₀ L s.heap m) (hc : env.cells.lookup x = some c) (hi : h₀.IsCell c (some v)) (h : Q v s) (hk : env.scope.kind = .function) (hx : env.kindOf x = some .cell) (hd : (x == ("__debug__" : Str)) = false) :
  wpAny M A (eval (.Name x pos) env) Q E s := wpAny_Name (wpAny_loadName_cell hk hx hc (hi.keeps F.keep) h) hd
theorem nmK (F : Fr h₀ L s.heap m) (X : K.In h₀) (T : TopRead p loose mg mb h₀) (e : nsIn K mainGlobals x = some (some v)) (h : Q v s) (hg : env.globals = mainGlobals) (hk : env.scope.kind = .function) (hx : env.kindOf x = some .globalImplicit) (hd : (x == ("__debug__" : Str)) = false) :
  wpAny M A (eval (.Name x pos) env) Q E s := Name_function_global hk hx (loadGlobal_global (env := env) (by rw [hg]; exact T.g.keeps F.keep) (mg_of X T.g e) h) hd
theorem nmB (F : Fr h₀ L s.heap m) (X : K.In h₀) (T : TopRead p loose mg mb h₀) (e : nsIn K mainGlobals x = some none) (hv : bootBuiltins x = some v) (hn : x ≠ "__name__") (h : Q v s) (hg : env.globals = mainGlobals) (hb : env.builtins = builtinsNs) (hk : env.scope.kind = .function) (hx : env.kindOf x = some .globalImplicit) (hd : (x == ("__debug__" : Str)) = false) :
  wpAny M A (eval (.Name x pos) env) Q E s :=
 Name_function_global hk hx (loadGlobal_builtin (env := env) (by rw [hg]; exact T.g.keeps F.keep) (mg_none_of X T.g e) (by rw [hb]; exact T.b.keeps F.keep) ((T.builtins x hn).trans hv) h) hd
theorem stL {Q : Unit → Shared → Prop} (F : Fr h₀ env.locals s.heap m) (N : News h₀ env.locals s.heap news)
  (h : ∀ h',Fr h₀ env.locals h' (fun y => if y = x then some v else m y) → News h₀ env.locals h' news → Q () { s with heap := h',toks := s.toks + 1 })
  (hk : env.scope.kind = .function) (hx : env.kindOf x = some .local) : wpAny M A (storeName env x v) Q E s :=
 wpAny_storeName_local hx F.ns (fun h' hn hs => h h' (F.set hn hs) (N.set hs)) (by rw [hk]; rfl)
end
end
section
open PySem PySem.W PySem.Calls PyProof.Rows
theorem mapSeq_at {h : Heap} {D : Addr} {its : Array Value} {n : Nat} (f : Array Value → Array Value) (ho : h.get? D = some (PySem.W.listOf its n)) :
  ∃ n',(h.update D (Obj.mapSeq f)).get? D = some (PySem.W.listOf (f its) n') := by
 have e : Obj.mapSeq f (PySem.W.listOf its n) = PySem.W.listOf (f its) (if (f its).size == its.size then n else n + 1) := rfl
 exact ⟨_,by rw [Heap.get?_update_self _ ho (by rw [e]; rfl),e]⟩
theorem list_iadd_seq : fillsInplaceSlot (.type "list") "add" (Operator.Add == .Add) = pure false := by kernel_rfl
theorem list_iadd_slot : seqSlot? (.type "list") (dunderI "add") = pure (some (.builtin "list.__iadd__")) := by kernel_rfl
section
variable {prog : Program} {w : World} {A : Around} {E : Value → Shared → Prop} {s : Shared} {h₀ : Heap} {L D b : Addr} {m : Str → Option Value} {rest : List (Addr × Obj)} {vs ws : List Value} {n n2 : Nat} {Q : Value → Shared → Prop}
end
end
section
open PySem PySem.W PySem.Calls PyProof.Rows
section
variable {prog : Program} {w : World} {A A₀ : Around} {E : Value → Shared → Prop} {s : Shared} {K : Frag} {C L : Addr} {h₀ base : Heap} {m mg mb : Str → Option Value} {news : List (Addr × Obj)} {p : Program} {loose : List Str} {Q : Value → Shared → Prop}
theorem code_defT {env : Env} {outer : List Env} {R : Result → Shared → Prop} {name qual : Str} {params : Arguments} {body : List Stmt} {scope : Scope} {dV kV doc pm cdv ct oc : Value} {an od : Option Addr} {osl : Array (Option Value)} {f : Addr} {args : Args} {binds : List (Str × Value)}
  (B : Below A₀ base outer h₀) (F : Fr h₀ L s.heap m) (X₀ : K.In h₀) (N : News h₀ L s.heap news) (T : TopRead p loose mg mb h₀) (hA : A.frames = some (env :: outer)) (hf : env.frame = some L) (hke : env.scope.kind = .function)
  (ho : K.lookup f = some ⟨oc,od,.func (fnOf name qual params body scope dV kV doc pm an cdv ct),osl⟩) (hcd : codeIn K cdv qual = true) (hroom : A.depth < recursionLimit)
  (hbind : BindsTo s (fnOf name qual params body scope dV kV doc pm an cdv ct) args binds) (hloc : ∀ y ∈ binds,scope.names.lookup y.1 = some .local)
  (h : ∀ g L' h₁,Fr h₀ L g m → Fr g L' h₁ (fun y => binds.reverse.lookup y) → News g L' h₁ news → Below A base (env :: outer) g → K.In g → TopRead p loose mg mb g →
   wpAny (model prog w) (A.deeper (envOf qual scope L' f cdv)) (execs body (envOf qual scope L' f cdv))
    (fun fl s' => LeaveK h₀ L m g R (match fl with | .ret v => v | _ => .none) s')
    (fun e s' => wpAny (model prog w) (A.deeper (envOf qual scope L' f cdv)) (leaving (envOf qual scope L' f cdv) e) (fun _ s'' => R (.error e) s'') (fun e' s'' => R (.error e') s'') s')
    { s with heap := h₁,toks := s.toks + binds.length })
  (hco : scope.isCoroutine = false) (hgen : scope.isGenerator = false) (hk : scope.kind = .function)
  (hcell : ∀ x ∈ scope.names,x.2 ≠ .cell) : codeAny (model prog w) A (.call (.ref f) args) R s :=
 callX_plain (cl := []) B F N T.nolimit hA hf hke ((X₀.keeps F.keep) _ _ ho) rfl (codeRec_of (X₀.keeps F.keep) hcd) hroom hbind hloc (fun g L' h₁ FG F' N' B' st _ => h g L' h₁ FG F' N' B' (X₀.keeps st) (T.keeps st)) hcell hco hgen hk
end
section
variable {M : Model} {A : Around} {E : Value → Shared → Prop} {s : Shared} {K : Frag} {env : Env} {pos p : Pos} {Q : Value → Shared → Prop}
theorem methodCall_star {o : Expr} {name : Str} {apos : Pos} {args : List Expr}
  (h : wpAny M A (eval o env) (fun ov s₁ => wpAny M A (getAttr ov name true) (fun f s₂ => wpAny M A (callWith pos f [] (backTo pos (starEach args env)) []) Q E s₂) E s₁) E s)
  (he : eval (.Call (.Attribute o name apos) args [] pos) env = (do
   let ov ← eval o env
   standAt apos.atName
   let fx ← holding [ov] (do pure (← getAttr ov name true,([] : List Value)))
   callWith pos fx.1 fx.2 (backTo pos (starEach args env)) []) := by rfl) :
  wpAny M A (eval (.Call (.Attribute o name apos) args [] pos) env) Q E s := by
 rw [he]
 refine wpAny_bind (wpAny_mono h (fun ov s₁ h₁ => wpAny_bind (wpAny_standAt (wpAny_bind (wpAny_holding (wpAny_bind (wpAny_mono h₁ (fun f s₂ h₂ => wpAny_pure h₂) fun _ _ x => x)))))) fun _ _ x => x)
theorem callWith_MS {q g : Addr} {self : Value} {e : Expr} {rest : List Expr} (hf : fnIn K g = true)
  (h : wpAny M A (spliced (backTo pos (starEach (e :: rest) env))) (fun vs s₁ => MethP K q g self s₁.heap ∧ wpAny M A (call (.ref q) vs) Q E s₁) E s)
  (he : starEach (e :: rest) env = (false,eval e env) :: starEach rest env := by rfl) (hst : (backTo pos (starEach rest env)).any (·.1) = true := by rfl) :
  wpAny M A (callWith pos (.ref q) [] (backTo pos (starEach (e :: rest) env)) []) Q E s := by
 rw [he] at h ⊢
 exact ks_call (P := MethP K q g self) (by show (false || (backTo pos (starEach rest env)).any (·.1)) = true; rw [hst]; rfl) (keeps_M hf) (evalArgs_plain h)
end
section
variable {prog : Program} {w : World} {A A₀ : Around} {E : Value → Shared → Prop} {s : Shared} {K : Frag} {L : Addr} {h₀ base : Heap} {m mg mb : Str → Option Value} {news : List (Addr × Obj)} {p : Program} {loose : List Str}
theorem star_isList {a : Addr} {vs : List Value} {Q : List Value → Shared → Prop} (hl : s.heap.IsList a vs.toArray) (hz : vs.length ≤ 1000)
  (h : ∀ h',s.heap.StaysIn h' → Q vs { s with heap := h' }) : StarOf (model prog w) A E (.ref a) Q s := by
 obtain ⟨o,D,hc,n,hd⟩ := hl
 have hT' : s.TypeIs (.ref a) "list" := ⟨o,D,hc⟩
 have z : wpAny (model prog w) A (collect (.ref a)) Q E s := by
  refine wpAny_collect_seq a (.inl rfl) D hc hd (fun h' hk => ?_) (by rw [List.size_toArray]; exact Nat.le_trans hz (by decide))
  exact h h' hk
 unfold StarOf notIterableAtAll
 exact wpAny_bind (wpAny_specialOf hT' PySem.F.slot_list_iter.lookup (wpAny_pure ⟨rfl,z⟩))
end
noncomputable def flds (P : Params) (a b c d : Tok) (nd rdy po nf : Value) : List DictEntry :=
 [⟨PyData.keyHash P (Str.ofString "_node2info"),.str (Str.ofString "_node2info") a,nd⟩,⟨PyData.keyHash P (Str.ofString "_ready_nodes"),.str (Str.ofString "_ready_nodes") b,rdy⟩,
 ⟨PyData.keyHash P (Str.ofString "_npassedout"),.str (Str.ofString "_npassedout") c,po⟩,⟨PyData.keyHash P (Str.ofString "_nfinished"),.str (Str.ofString "_nfinished") d,nf⟩]
noncomputable def infO (dx sx : Addr) (np : Int) (t : Tok) (k : Int) (u : Tok) : Obj := { cls := .ref 88,dict := some dx,data := .plain,slots := #[some (.int k u),some (.int np t),some (.ref sx)] }
end
section
open PySem PySem.W PySem.Calls PyProof.Rows
noncomputable abbrev off (h : Heap) (led : List (Addr × Obj)) : Heap := hideAll h (led.map (·.1))
theorem off_stays (h : Heap) (led : List (Addr × Obj)) : (off h led).StaysIn h := fun _ _ e => of_hideAll _ e
set_option tactic.hygienic true in
theorem wp_peek1 {α : Type} {K : Frag} {M : Model} {A : Around} {E : Value → Shared → Prop} {Q : α → Shared → Prop} {s : Shared} {o : Obj} {r : Addr → α}
  (X : K.In s.heap) (q : Q (r s.heap.objs.size) { s with heap := s.heap.push o }) :
  ∀ (t : Sem α) (g : Addr → Option α),peek1 K ⟨M.prog,M.w.params⟩ t = some (o,g) → (∀ D,g D = some (r D)) → wpAny M A t Q E s := by
 intro t
 induction t with
 | rule _ k ih => intro g e hg Γ p hΓ; exact ih () g e hg Γ p hΓ
 | point _ k ih => intro g e hg Γ p hΓ; exact ih () g e hg Γ p hΓ
 | ask k ih => intro g e hg Γ p hΓ; exact ih _ g e hg Γ p hΓ
 | load a _ k ih =>
  intro g e hg Γ p hΓ
  simp only [peek1] at e
  split at e
  ·rename_i ob ho; exact ⟨ob,X _ _ ho,ih ob g e hg Γ p hΓ⟩
  ·cases e
 | alloc ob k _ =>
  intro g e hg
  have e : some (ob,fun D => peek K ⟨M.prog,M.w.params⟩ (k D)) = some (o,g) := e
  obtain ⟨e1,e2⟩ := Prod.mk.inj (Option.some.inj e)
  subst e1
  subst e2
  have X' : K.In (s.heap.push ob) := X.keeps fun b x hb => Heap.get?_push_of_some _ hb
  show wpAny M A (alloc ob >>= k) Q E s
  refine wpAny_bind (wpAny_alloc ?_)
  exact (Looks.of_peek (M := M) (h := s.heap.push ob) X' (hg s.heap.objs.size)).here (s := { s with heap := s.heap.push ob }) q
 | _ => intro g e; cases e
section
variable {prog : Program} {w : World} {A A₀ : Around} {s : Shared} {base h₀ : Heap} {outer : List Env} {K : Frag} {mg mb : Str → Option Value} {p : Program} {loose : List Str} {E : Value → Shared → Prop}
 {R : Result → Shared → Prop} {name qual : Str} {params : Arguments} {body : List Stmt} {scope : Scope} {dV kV doc pm cdv ct oc : Value} {an od : Option Addr} {osl : Array (Option Value)} {f : Addr} {args : Args} {binds : List (Str × Value)} {led : List (Addr × Obj)}
theorem enterM (B : Below A base outer (off s.heap led)) (X : K.In (off s.heap led)) (T : TopRead p loose mg mb (off s.heap led)) (hled : ∀ q ∈ led,s.heap.get? q.1 = some q.2)
  (ho : K.lookup f = some ⟨oc,od,.func (fnOf name qual params body scope dV kV doc pm an cdv ct),osl⟩) (hcd : codeIn K cdv qual = true) (hroom : A.depth < recursionLimit)
  (hbind : BindsTo s (fnOf name qual params body scope dV kV doc pm an cdv ct) args binds) (hloc : ∀ y ∈ binds,scope.names.lookup y.1 = some .local)
  (h : ∀ g L' h₁,g = off s.heap led → Fr g L' h₁ (fun y => binds.reverse.lookup y) → News g L' h₁ led → (∀ q ∈ led,q.1 < L') → Below A base outer g → K.In g → TopRead p loose mg mb g →
   wpAny (model prog w) (A.deeper (envOf qual scope L' f cdv)) (execs body (envOf qual scope L' f cdv))
    (fun fl s' => R (.ok (.ret (match fl with | .ret v => v | _ => .none))) s') (fun _ _ => False)
    { s with heap := h₁,toks := s.toks + binds.length })
  (hco : scope.isCoroutine = false) (hgen : scope.isGenerator = false) (hk : scope.kind = .function)
  (hcell : ∀ x ∈ scope.names,x.2 ≠ .cell) : codeAny (model prog w) A (.call (.ref f) args) R s := by
 have st := off_stays s.heap led
 have X' := X.keeps st
 refine codeAny_call_def (fd := fnOf name qual params body scope dV kV doc pm an cdv ct) (body := body) (binds := binds) hroom (X' _ _ ho) rfl (T.nolimit.keeps st) (codeRec_of X' hcd) rfl hbind hcell hloc (fun h₁ hns hk₁ => ?_) hco hgen hk
 exact wpAny_mono (h _ s.heap.objs.size h₁ rfl ⟨hns,fun b o e => hk₁ b o (of_hideAll _ e),Nat.le_of_eq (hideAll_size _ _)⟩
  (fun q hq => ⟨hk₁ _ _ (hled q hq),Nat.ne_of_lt (Heap.lt_size (hled q hq)),hideAll_none _ (List.mem_map_of_mem hq)⟩) (fun q hq => Heap.lt_size (hled q hq)) B X T) (fun _ _ x => x) fun _ _ x => x.elim
theorem enterMR {vs : List Value} {g₁ : Addr → Option (List (Str × Value))} {bindsD : Addr → List (Str × Value)} (B : Below A base outer (off s.heap led)) (X : K.In (off s.heap led)) (T : TopRead p loose mg mb (off s.heap led)) (hled : ∀ q ∈ led,s.heap.get? q.1 = some q.2)
  (ho : K.lookup f = some ⟨oc,od,.func (fnOf name qual params body scope dV kV doc pm an cdv ct),osl⟩) (hcd : codeIn K cdv qual = true) (hroom : A.depth < recursionLimit)
  (hp : peek1 K ⟨prog,w.params⟩ (bindArgs (fnOf name qual params body scope dV kV doc pm an cdv ct) args) = some (({ cls := .type "tuple",data := .seq vs.toArray } : Obj),g₁))
  (hg : ∀ D,g₁ D = some (bindsD D)) (hloc : ∀ D,∀ y ∈ bindsD D,scope.names.lookup y.1 = some .local)
  (h : ∀ D g L' h₁,g = off s.heap led → (∀ q ∈ led,q.1 < D) → D < L' → Fr g L' h₁ (fun y => (bindsD D).reverse.lookup y) → News g L' h₁ ((D,({ cls := .type "tuple",data := .seq vs.toArray } : Obj)) :: led) → Below A base outer g → K.In g → TopRead p loose mg mb g →
   wpAny (model prog w) (A.deeper (envOf qual scope L' f cdv)) (execs body (envOf qual scope L' f cdv))
    (fun fl s' => R (.ok (.ret (match fl with | .ret v => v | _ => .none))) s') (fun _ _ => False)
    { s with heap := h₁,toks := s.toks + (bindsD D).length })
  (hco : scope.isCoroutine = false) (hgen : scope.isGenerator = false) (hk : scope.kind = .function)
  (hcell : ∀ x ∈ scope.names,x.2 ≠ .cell) : codeAny (model prog w) A (.call (.ref f) args) R s := by
 have st := off_stays s.heap led
 have X' := X.keeps st
 refine codeAny_call_function (fd := fnOf name qual params body scope dV kV doc pm an cdv ct) (body := body) hroom (X' _ _ ho) rfl hco hgen rfl (codeRec_of X' hcd) ?_
 refine wp_peek1 (o := ({ cls := .type "tuple",data := .seq vs.toArray } : Obj)) X' (r := bindsD) ?_ _ g₁ hp hg
 have hD : (s.heap.push ({ cls := .type "tuple",data := .seq vs.toArray } : Obj)).get? s.heap.objs.size = some ({ cls := .type "tuple",data := .seq vs.toArray } : Obj) := Heap.get?_push_size _ rfl
 refine wpAny_newFunctionEnv hcell (hloc _) (fun h₁ hns hsb => ⟨((T.nolimit.keeps st).keeps fun b o e => Heap.get?_push_of_some _ e).fresh _ hsb,codeAny_func ?_⟩) hk
 have hk₁ : ∀ b o,(s.heap.push ({ cls := .type "tuple",data := .seq vs.toArray } : Obj)).get? b = some o → h₁.get? b = some o := fun b o e => hsb.extBut b o (Nat.ne_of_lt (Heap.lt_size e)) (Heap.get?_push_of_some _ e)
 have hk₂ : ∀ b o,s.heap.get? b = some o → h₁.get? b = some o := fun b o e => hk₁ b o (Heap.get?_push_of_some _ e)
 have hsz : (s.heap.push ({ cls := .type "tuple",data := .seq vs.toArray } : Obj)).objs.size = s.heap.objs.size + 1 := Heap.size_push ..
 refine wpAny_mono (h s.heap.objs.size _ _ h₁ rfl (fun q hq => Heap.lt_size (hled q hq)) (ltN (by dsimp only; simp)) ⟨hns,fun b o e => hk₂ b o (of_hideAll _ e),?_⟩ ?_ B X T) (fun _ _ x => x) fun _ _ x => x.elim
 ·rw [hideAll_size]; dsimp only; simp
 ·refine List.forall_mem_cons.mpr ⟨⟨hk₁ _ _ hD,?_,?_⟩,fun q hq => ⟨hk₂ _ _ (hled q hq),?_,hideAll_none _ (List.mem_map_of_mem hq)⟩⟩
  ·exact neN (by dsimp only; simp)
  ·cases q : (off s.heap led).get? s.heap.objs.size with
   | none => rfl
   | some o => exact absurd (Heap.lt_size (of_hideAll _ q)) (Nat.lt_irrefl _)
  ·exact Nat.ne_of_lt (Nat.lt_of_lt_of_le (Heap.lt_size (hled q hq)) (Nat.le_trans (Nat.le_succ _) (Nat.le_of_eq hsz.symm)))
end
section
variable {w : World} {A A₀ : Around} {s : Shared} {base h₀ : Heap} {outer : List Env} {mg mb : Str → Option Value} {p : Program} {loose : List Str} {E Q : Value → Shared → Prop} {env : Env} {L : Addr} {m : Str → Option Value} {led rest : List (Addr × Obj)} {post : Value → List (Addr × Obj) → Prop} {dp un : Nat} {f : Addr} {args : List Value}
end
section
variable {prog : Program} {w : World} {A : Around} {E : Value → Shared → Prop} {s : Shared} {h₀ : Heap} {L D : Addr} {m : Str → Option Value} {news : List (Addr × Obj)} {g : Obj → List (Addr × Obj)} {vs : List Value} {n : Nat} {Q : Value → Shared → Prop}
theorem append_upd {x : Value} (F : Fr h₀ L s.heap m) (N : News h₀ L s.heap news) (U : UpdF D (PySem.W.listOf vs.toArray n) news g) (hz : vs.length ≤ 100000)
  (h : ∀ h' n',Fr h₀ L h' m → News h₀ L h' (g (PySem.W.listOf (vs ++ [x]).toArray n')) → Q .none { s with heap := h' }) :
  wpAny (model prog w) A (call (.builtin "list.append") [.ref D,x]) Q E s := by
 obtain ⟨pre,post,rfl,hg,a,b⟩ := U.split
 have z := N (D,PySem.W.listOf vs.toArray n) (mR _ (.head _))
 have sl : sizeLine = 16777216 := by decide
 refine wpAny_list_append_plain (items := vs.toArray) (hsz := by rw [List.size_toArray]; lia) ⟨n,z.1⟩ fun h₅ hl₅ hs₅ => ?_
 obtain ⟨no₅,hD₅⟩ := hl₅
 have e5 : (vs.toArray.push x) = (vs ++ [x]).toArray := by simp
 rw [e5] at hD₅
 exact h _ no₅ (F.change hs₅ z.2.1 z.2.2) (hg _ ▸ N.setIn a b hs₅ hD₅)
end
section
variable {prog : Program} {w : World} {A : Around} {E : Value → Shared → Prop} {s : Shared} {h₀ : Heap} {L D b : Addr} {m : Str → Option Value} {news : List (Addr × Obj)} {g : Obj → List (Addr × Obj)} {vs ws : List Value} {n n2 : Nat} {Q : Value → Shared → Prop}
theorem clear_upd (F : Fr h₀ L s.heap m) (N : News h₀ L s.heap news) (U : UpdF D (PySem.W.listOf vs.toArray n) news g) (hz : vs.length ≤ 100000)
  (h : ∀ h' n',Fr h₀ L h' m → News h₀ L h' (g (PySem.W.listOf #[] n')) → Q .none { s with heap := h' }) :
  wpAny (model prog w) A (call (.builtin "list.clear") [.ref D]) Q E s := by
 obtain ⟨pre,post,rfl,hg,a,b⟩ := U.split
 have z := N (D,PySem.W.listOf vs.toArray n) (mR _ (.head _))
 have sl : sizeLine = 16777216 := by decide
 refine call_meets PySem.F.slot_list_clear ⟨_,z.1,rfl⟩ PySem.F.entry_list_clear (PySem.F.args_list_clear_1 _) (PySem.AutoSeq1.list_clear_list_0 D vs.toArray n (by rw [List.size_toArray]; omega)) ⟨z.1,?_⟩
 obtain ⟨n',hn'⟩ := mapSeq_at (h := s.heap) (fun _ => #[]) z.1
 exact h _ n' (F.change (Heap.SameBut.update ..) z.2.1 z.2.2) (hg _ ▸ N.setIn a b (Heap.SameBut.update ..) hn')
end
end
section
open PySem PySem.W PySem.Calls PyProof.Rows
noncomputable def decP (st : List Int × List Int) (s : Int) : List Int × List Int :=
 let c := st.1.getD s.toNat 0 - 1
 (st.1.set s.toNat c,if c = 0 then st.2 ++ [s] else st.2)
noncomputable def pend (N : Nat → List Int) (pre : List Int) (w : Nat) : Nat := ((N w).filter fun e => !pre.any (· == e)).length
noncomputable def stat (N : Nat → List Int) (pre : List Int) (w : Nat) : Int := if pre.any (· == (w : Int)) then -2 else if pend N pre w = 0 then -1 else (pend N pre w : Int)
noncomputable def cn (N : Nat → List Int) (k : Int) (w : Nat) : Nat := ((N w).filter (· == k)).length
noncomputable def free (N : Nat → List Int) (pre : List Int) (w : Int) : Prop := 0 ≤ w ∧ w < 4 ∧ w ∉ pre ∧ ∀ e ∈ N w.toNat,e ∈ pre
noncomputable def FreeSpec (N : Nat → List Int) (pre fs : List Int) : Prop := fs.Nodup ∧ ∀ w,w ∈ fs ↔ free N pre w
noncomputable def ValidP (N : Nat → List Int) (pre : List Int) : Prop := ∀ w ∈ pre,0 ≤ w ∧ w < 4 ∧ ∀ e ∈ N w.toNat,e ∈ pre
noncomputable def GoodN (N : Nat → List Int) : Prop := ∀ (w : Nat),∀ e ∈ N w,0 ≤ e ∧ e < (w : Int)
noncomputable def rdP (N : Nat → List Int) (pre : List Int) (k : Int) : List Int := ((List.range 4).filter fun w => decide (cn N k w ≠ 0 ∧ stat N pre w = (cn N k w : Int))).map fun (w : Nat) => (w : Int)
theorem any_eq_mem {pre : List Int} {e : Int} : pre.any (· == e) = true ↔ e ∈ pre := by
 rw [List.any_eq_true]
 constructor
 ·rintro ⟨x,hx,h⟩
  rw [beq_iff_eq] at h
  exact h ▸ hx
 ·intro h
  exact ⟨e,h,by simp⟩
theorem any_eq_not {pre : List Int} {e : Int} : pre.any (· == e) = false ↔ e ∉ pre := by
 rw [← any_eq_mem,Bool.not_eq_true]
theorem pend_snoc {N : Nat → List Int} {pre : List Int} {k : Int} (hk : k ∉ pre) (w : Nat) : pend N (pre ++ [k]) w + cn N k w = pend N pre w := by
 unfold pend cn
 induction N w with
 | nil => rfl
 | cons e r ih =>
  simp only [List.filter_cons]
  by_cases hp : pre.any (· == e) = true
  ·have hne : e ≠ k := fun q => hk (q ▸ any_eq_mem.mp hp)
   simp [hp,hne,List.any_append] at ih ⊢
   exact ih
  ·have hp' : pre.any (· == e) = false := Bool.eq_false_iff.mpr hp
   by_cases hek : e = k
   ·subst hek
    simp [hp',List.any_append] at ih ⊢
    omega
   ·have hke : ¬ k = e := fun q => hek q.symm
    simp [hp',hek,hke,List.any_append] at ih ⊢
    omega
theorem pend_zero {N : Nat → List Int} {pre : List Int} {w : Nat} : pend N pre w = 0 ↔ ∀ e ∈ N w,e ∈ pre := by
 unfold pend
 rw [List.length_eq_zero_iff,List.filter_eq_nil_iff]
 constructor
 ·intro h e he
  have := h e he
  simp only [Bool.not_eq_true',Bool.not_eq_false] at this
  exact any_eq_mem.mp (by simpa using this)
 ·intro h e he
  have := any_eq_mem.mpr (h e he)
  simp [this]
theorem cn_zero {N : Nat → List Int} {k : Int} {w : Nat} : cn N k w = 0 ↔ k ∉ N w := by
 unfold cn
 rw [List.length_eq_zero_iff,List.filter_eq_nil_iff]
 constructor
 ·intro h hk
  exact h k hk (by simp)
 ·intro h e he
  intro q
  rw [beq_iff_eq] at q
  exact h (q ▸ he)
theorem stat_need {N : Nat → List Int} {pre : List Int} {k : Int} {w : Nat} (hv : ValidP N pre) (hk : k ∉ pre) (hc : cn N k w ≠ 0) : (w : Int) ∉ pre ∧ stat N pre w = (pend N pre w : Int) ∧ pend N pre w ≠ 0 := by
 have hkn : k ∈ N w := by
  by_cases h : k ∈ N w
  ·exact h
  ·exact absurd (cn_zero.mpr h) hc
 have hw : (w : Int) ∉ pre := fun h => hk ((hv _ h).2.2 k (by simpa using hkn))
 have hp : pend N pre w ≠ 0 := fun h => hk (pend_zero.mp h k hkn)
 refine ⟨hw,?_,hp⟩
 unfold stat
 rw [any_eq_not.mpr hw]
 simp [hp]
theorem stat_step {N : Nat → List Int} {pre : List Int} {k : Int} {w : Nat} (hv : ValidP N pre) (hk : k ∉ pre) (hw : (w : Int) ≠ k) :
  (if cn N k w ≠ 0 ∧ stat N pre w = (cn N k w : Int) then -1 else stat N pre w - (cn N k w : Int)) = stat N (pre ++ [k]) w := by
 have hps := pend_snoc (N := N) hk w
 by_cases hc : cn N k w = 0
 ·rw [if_neg (fun h => h.1 hc),hc]
  rw [hc] at hps
  unfold stat
  have : pend N (pre ++ [k]) w = pend N pre w := by omega
  rw [this]
  have hwk : ¬ k = (w : Int) := fun q => hw q.symm
  simp [List.any_append,hwk]
 ·obtain ⟨h1,h2,h3⟩ := stat_need hv hk hc
  rw [h2]
  have ha : (pre ++ [k]).any (· == (w : Int)) = false := any_eq_not.mpr (by simp [h1,hw])
  unfold stat
  rw [ha]
  by_cases hp : pend N (pre ++ [k]) w = 0
  ·rw [if_pos ⟨hc,by simp_all⟩]
   simp [hp]
  ·rw [if_neg (by lia)]
   simp [hp]
   lia
theorem stat_done {N : Nat → List Int} {pre : List Int} {k : Nat} : stat N (pre ++ [(k : Int)]) k = -2 := by
 unfold stat
 rw [any_eq_mem.mpr (by simp)]
 rfl
theorem stat_free {N : Nat → List Int} {pre : List Int} {k : Nat} (h : free N pre k) : stat N pre k = -1 := by
 obtain ⟨_,_,h3,h4⟩ := h
 unfold stat
 rw [any_eq_not.mpr h3]
 have : pend N pre k = 0 := pend_zero.mpr (by simpa using h4)
 simp [this]
theorem mem_rdP {N : Nat → List Int} {pre : List Int} {k w : Int} : w ∈ rdP N pre k ↔ 0 ≤ w ∧ w < 4 ∧ cn N k w.toNat ≠ 0 ∧ stat N pre w.toNat = (cn N k w.toNat : Int) := by
 unfold rdP
 rw [List.mem_map]
 constructor
 ·rintro ⟨v,hv,rfl⟩
  rw [List.mem_filter,List.mem_range,decide_eq_true_eq] at hv
  refine ⟨by exact Int.natCast_nonneg _,by omega,?_⟩
  simpa using hv.2
 ·rintro ⟨h0,h4,h⟩
  refine ⟨w.toNat,?_,by exact arb ‹_›⟩
  rw [List.mem_filter,List.mem_range,decide_eq_true_eq]
  exact ⟨by exact arc ‹_› ‹_›,h⟩
theorem rdP_any {N : Nat → List Int} {pre : List Int} {k : Int} {w : Nat} (hw : w < 4) : ((rdP N pre k).any (· == (w : Int)) = true) ↔ (cn N k w ≠ 0 ∧ stat N pre w = (cn N k w : Int)) := by
 rw [any_eq_mem,mem_rdP]
 simp only [Int.toNat_natCast]
 constructor
 ·rintro ⟨_,_,h⟩; exact h
 ·intro h; exact ⟨by exact Int.natCast_nonneg _,by exact Int.ofNat_lt.mpr ‹_›,h⟩
theorem nodup_map_int {l : List Nat} (h : l.Nodup) : (l.map fun (w : Nat) => (w : Int)).Nodup := by
 induction l with
 | nil => simp
 | cons a r ih =>
  rw [List.nodup_cons] at h
  rw [List.map_cons,List.nodup_cons]
  refine ⟨fun q => ?_,ih h.2⟩
  obtain ⟨b,hb,e⟩ := List.mem_map.mp q
  have : b = a := by lia
  exact h.1 (this ▸ hb)
theorem rdP_nodup {N : Nat → List Int} {pre : List Int} {k : Int} : (rdP N pre k).Nodup := nodup_map_int (List.Nodup.sublist List.filter_sublist List.nodup_range)
theorem rdP_length {N : Nat → List Int} {pre : List Int} {k : Int} : (rdP N pre k).length ≤ 4 := by
 unfold rdP
 rw [List.length_map]
 exact Nat.le_trans (List.length_filter_le _ _) (by simp)
theorem free_step {N : Nat → List Int} {pre fs : List Int} {k : Int} (hg : GoodN N) (hv : ValidP N pre) (hf : FreeSpec N pre fs) (hk : k ∈ fs) : FreeSpec N (pre ++ [k]) (fs.erase k ++ rdP N pre k) ∧ ValidP N (pre ++ [k]) := by
 obtain ⟨hnd,hm⟩ := hf
 obtain ⟨k0,k4,kp,kn⟩ := (hm k).mp hk
 have cz : ∀ w,w ∈ fs → cn N k w.toNat = 0 := fun w hw => by
  obtain ⟨_,_,_,h⟩ := (hm w).mp hw
  exact cn_zero.mpr fun q => kp (h k q)
 refine ⟨⟨?_,fun w => ?_⟩,?_⟩
 ·rw [List.nodup_append]
  refine ⟨hnd.erase _,rdP_nodup,?_⟩
  intro a ha b hb e
  subst e
  exact (mem_rdP.mp hb).2.2.1 (cz a (List.mem_of_mem_erase ha))
 ·rw [List.mem_append,hnd.mem_erase_iff,mem_rdP,hm w]
  constructor
  ·rintro (⟨hne,h0,h4,hp,hn⟩ | ⟨h0,h4,hc,hs⟩)
   ·exact ⟨h0,h4,by simp [hp,hne],fun e he => mL _ (hn e he)⟩
   ·obtain ⟨h1,h2,h3⟩ := stat_need hv kp hc
    have hps := pend_snoc (N := N) kp w.toNat
    have hz : pend N (pre ++ [k]) w.toNat = 0 := by lia
    have hwk : w ≠ k := fun q => by
     subst q
     have hkn : w ∈ N w.toNat := by
      by_cases h : w ∈ N w.toNat
      ·exact h
      ·exact absurd (cn_zero.mpr h) hc
     have := (hg _ w hkn).2
     simp_all
    rw [show ((w.toNat : Nat) : Int) = w by exact arb ‹_›] at h1
    exact ⟨h0,h4,by simp [h1,hwk],pend_zero.mp hz⟩
  ·rintro ⟨h0,h4,hp,hn⟩
   simp only [List.mem_append,List.mem_singleton,not_or] at hp
   by_cases hq : pend N pre w.toNat = 0
   ·exact .inl ⟨hp.2,h0,h4,hp.1,pend_zero.mp hq⟩
   ·have hz : pend N (pre ++ [k]) w.toNat = 0 := pend_zero.mpr hn
    have hps := pend_snoc (N := N) kp w.toNat
    have hc : cn N k w.toNat ≠ 0 := by simp_all
    obtain ⟨h1,h2,h3⟩ := stat_need hv kp hc
    exact .inr ⟨h0,h4,hc,by simp_all⟩
 ·intro w hw
  rcases mA hw with hw | hw
  ·obtain ⟨a,b,c⟩ := hv w hw
   exact ⟨a,b,fun e he => mL _ (c e he)⟩
  ·rw [List.mem_singleton.mp hw]
   exact ⟨k0,k4,fun e he => mL _ (kn e he)⟩
noncomputable def seg (N : Nat → List Int) (k : Int) (w : Nat) : List Int := ((N w).filter (· == k)).map fun _ => (w : Int)
theorem dec_seg {w : Nat} : ∀ (l : List Int) (qs rd : List Int) (q : Int),qs[w]? = some q → (l = [] ∨ (l.length : Int) ≤ q) →
  (l.map fun _ => (w : Int)).foldl decP (qs,rd) = (qs.set w (q - l.length),if l.length ≠ 0 ∧ q = l.length then rd ++ [(w : Int)] else rd)
 | [],qs,rd,q,hq,_ => by
  have : qs.set w q = qs := by
   apply List.ext_getElem?
   intro i
   rw [List.getElem?_set]
   split
   ·rename_i h
    subst h
    rw [hq]
    have := (List.getElem?_eq_some_iff.mp hq).1
    simp [this]
   ·rfl
  simp [this]
 | a :: l,qs,rd,q,hq,h => by
  have hl : ((l.length : Int) + 1) ≤ q := by
   rcases h with h | h
   ·cases h
   ·simpa using h
  have hlt := (List.getElem?_eq_some_iff.mp hq).1
  have hd : decP (qs,rd) (w : Int) = (qs.set w (q - 1),if q - 1 = 0 then rd ++ [(w : Int)] else rd) := by
   unfold decP
   simp only [Int.toNat_natCast,List.getD_eq_getElem?_getD,hq,Option.getD_some]
  rw [List.map_cons,List.foldl_cons,hd]
  have hq' : (qs.set w (q - 1))[w]? = some (q - 1) := by simp [hlt]
  rw [dec_seg l _ _ (q - 1) hq' (by
   rcases l with _ | ⟨b,l⟩
   ·exact .inl rfl
   ·right; simp at hl ⊢; omega)]
  rw [List.set_set]
  have e1 : q - 1 - (l.length : Int) = q - ((a :: l).length : Int) := by simp; lia
  rw [e1]
  congr 1
  simp only [List.length_cons]
  by_cases h1 : q - 1 = 0
  ·have : l.length = 0 := by omega
   rw [if_neg (fun z => z.1 this),if_pos h1,if_pos ⟨by exact Nat.succ_ne_zero _,by omega⟩]
  ·rw [if_neg h1]
   by_cases h2 : l.length ≠ 0 ∧ q - 1 = (l.length : Int)
   ·rw [if_pos h2,if_pos ⟨by exact Nat.succ_ne_zero _,by lia⟩]
   ·rw [if_neg h2,if_neg (by lia)]
theorem dec_seg' {N : Nat → List Int} {pre : List Int} {k : Int} {w : Nat} (hv : ValidP N pre) (hk : k ∉ pre) (qs rd : List Int) (hq : qs[w]? = some (stat N pre w)) :
  (seg N k w).foldl decP (qs,rd) = (qs.set w (stat N pre w - cn N k w),if cn N k w ≠ 0 ∧ stat N pre w = (cn N k w : Int) then rd ++ [(w : Int)] else rd) := by
 have := dec_seg (w := w) ((N w).filter (· == k)) qs rd _ hq (by
  by_cases hc : cn N k w = 0
  ·exact .inl (List.length_eq_zero_iff.mp hc)
  ·right
   obtain ⟨_,h2,_⟩ := stat_need hv hk hc
   have hps := pend_snoc (N := N) hk w
   rw [h2]
   show (cn N k w : Int) ≤ _
   lia)
 exact this
theorem cn_low {N : Nat → List Int} (hg : GoodN N) {k : Int} {w : Nat} (h : (w : Int) ≤ k) : cn N k w = 0 := cn_zero.mpr fun q => by have := (hg w k q).2; lia
theorem done_pure0 {N : Nat → List Int} {pre : List Int} (hg : GoodN N) (hv : ValidP N pre) (hk : (0 : Int) ∉ pre) :
  ((([] ++ seg N 0 1) ++ seg N 0 2) ++ seg N 0 3).foldl decP ([-2,stat N pre 1,stat N pre 2,stat N pre 3],[]) = ([-2,stat N pre 1 - cn N 0 1,stat N pre 2 - cn N 0 2,stat N pre 3 - cn N 0 3],rdP N pre 0) := by
 rw [List.nil_append,List.foldl_append,List.foldl_append,dec_seg' (w := 1) hv hk _ _ rfl,dec_seg' (w := 2) hv hk _ _ rfl,dec_seg' (w := 3) hv hk _ _ rfl]
 have e0 : cn N 0 0 = 0 := cn_low hg (by decide)
 congr 1
 simp only [rdP,List.range,List.range.loop,List.filter_cons,List.filter_nil,e0,decide_eq_true_eq]
 by_cases h1 : cn N 0 1 ≠ 0 ∧ stat N pre 1 = (cn N 0 1 : Int) <;> by_cases h2 : cn N 0 2 ≠ 0 ∧ stat N pre 2 = (cn N 0 2 : Int) <;> by_cases h3 : cn N 0 3 ≠ 0 ∧ stat N pre 3 = (cn N 0 3 : Int) <;> simp [h1,h2,h3]
theorem done_pure1 {N : Nat → List Int} {pre : List Int} (hg : GoodN N) (hv : ValidP N pre) (hk : (1 : Int) ∉ pre) :
  (([] ++ seg N 1 2) ++ seg N 1 3).foldl decP ([stat N pre 0,-2,stat N pre 2,stat N pre 3],[]) = ([stat N pre 0,-2,stat N pre 2 - cn N 1 2,stat N pre 3 - cn N 1 3],rdP N pre 1) := by
 rw [List.nil_append,List.foldl_append,dec_seg' (w := 2) hv hk _ _ rfl,dec_seg' (w := 3) hv hk _ _ rfl]
 have e0 : cn N 1 0 = 0 := cn_low hg (by decide)
 have e1 : cn N 1 1 = 0 := cn_low hg (by decide)
 congr 1
 simp only [rdP,List.range,List.range.loop,List.filter_cons,List.filter_nil,e0,e1,decide_eq_true_eq]
 by_cases h2 : cn N 1 2 ≠ 0 ∧ stat N pre 2 = (cn N 1 2 : Int) <;> by_cases h3 : cn N 1 3 ≠ 0 ∧ stat N pre 3 = (cn N 1 3 : Int) <;> simp [h2,h3]
theorem done_pure2 {N : Nat → List Int} {pre : List Int} (hg : GoodN N) (hv : ValidP N pre) (hk : (2 : Int) ∉ pre) :
  ([] ++ seg N 2 3).foldl decP ([stat N pre 0,stat N pre 1,-2,stat N pre 3],[]) = ([stat N pre 0,stat N pre 1,-2,stat N pre 3 - cn N 2 3],rdP N pre 2) := by
 rw [List.nil_append,dec_seg' (w := 3) hv hk _ _ rfl]
 have e0 : cn N 2 0 = 0 := cn_low hg (by decide)
 have e1 : cn N 2 1 = 0 := cn_low hg (by decide)
 have e2 : cn N 2 2 = 0 := cn_low hg (by decide)
 congr 1
 simp only [rdP,List.range,List.range.loop,List.filter_cons,List.filter_nil,e0,e1,e2,decide_eq_true_eq]
 by_cases h3 : cn N 2 3 ≠ 0 ∧ stat N pre 3 = (cn N 2 3 : Int) <;> simp [h3]
theorem done_pure3 {N : Nat → List Int} {pre : List Int} (hg : GoodN N) :
  ([] : List Int).foldl decP ([stat N pre 0,stat N pre 1,stat N pre 2,-2],[]) = ([stat N pre 0,stat N pre 1,stat N pre 2,-2],rdP N pre 3) := by
 have e0 : cn N 3 0 = 0 := cn_low hg (by decide)
 have e1 : cn N 3 1 = 0 := cn_low hg (by decide)
 have e2 : cn N 3 2 = 0 := cn_low hg (by decide)
 have e3 : cn N 3 3 = 0 := cn_low hg (by decide)
 simp [rdP,List.range,List.range.loop,e0,e1,e2,e3]
noncomputable def zerosP (N : Nat → List Int) : List Int := (([((0 : Int),((N 0).length : Int)),((1 : Int),((N 1).length : Int)),((2 : Int),((N 2).length : Int)),((3 : Int),((N 3).length : Int))]).filter fun q => q.2 == 0).map (·.1)
theorem pend_nil {N : Nat → List Int} {w : Nat} : pend N [] w = (N w).length := by
 unfold pend
 congr 1
 exact List.filter_eq_self.mpr fun _ _ => rfl
theorem mem_zeros {N : Nat → List Int} {v : Int} : v ∈ zerosP N ↔ 0 ≤ v ∧ v < 4 ∧ N v.toNat = [] := by
 unfold zerosP
 rw [List.mem_map]
 constructor
 ·rintro ⟨q,hq,rfl⟩
  rw [List.mem_filter,beq_iff_eq] at hq
  obtain ⟨h1,h2⟩ := hq
  simp only [List.mem_cons,List.not_mem_nil,or_false] at h1
  rcases h1 with rfl | rfl | rfl | rfl <;> refine ⟨by dsimp only; exact Int.natCast_nonneg _,by dsimp only; exact Int.natCast_nonneg _,?_⟩ <;> exact List.length_eq_zero_iff.mp (by simpa using h2)
 ·rintro ⟨h0,h4,hn⟩
  have hz : (((N v.toNat).length : Int) == 0) = true := by rw [hn]; rfl
  rcases (by exact arg ‹_› ‹_› : v = 0 ∨ v = 1 ∨ v = 2 ∨ v = 3) with h | h | h | h <;> subst h
  ·exact ⟨((0 : Int),((N 0).length : Int)),List.mem_filter.mpr ⟨.head _,hz⟩,rfl⟩
  ·exact ⟨((1 : Int),((N 1).length : Int)),List.mem_filter.mpr ⟨.tail _ (.head _),hz⟩,rfl⟩
  ·exact ⟨((2 : Int),((N 2).length : Int)),List.mem_filter.mpr ⟨.tail _ (.tail _ (.head _)),hz⟩,rfl⟩
  ·exact ⟨((3 : Int),((N 3).length : Int)),List.mem_filter.mpr ⟨.tail _ (.tail _ (.tail _ (.head _))),hz⟩,rfl⟩
theorem zeros_spec {N : Nat → List Int} : FreeSpec N [] (zerosP N) := by
 refine ⟨?_,fun v => ?_⟩
 ·refine List.Nodup.sublist (List.filter_sublist.map _) (show ([0,1,2,3] : List Int).Nodup by decide)
 ·rw [mem_zeros]
  unfold free
  constructor
  ·rintro ⟨a,b,c⟩
   exact ⟨a,b,by simp,by simp [c]⟩
  ·rintro ⟨a,b,_,c⟩
   exact ⟨a,b,List.eq_nil_iff_forall_not_mem.mpr fun e he => by simpa using c e he⟩
end
section
open PySem PySem.W PySem.Calls PyProof.Rows
noncomputable abbrev frs (l : List Env) : List Addr := l.filterMap (·.frame)
section
variable {prog : Program} {w : World} {A₀ : Around} {E : Value → Shared → Prop} {s' : Shared} {base g h : Heap} {outer : List Env} {L a e : Addr} {m : Str → Option Value} {name : Str} {scope : Scope} {cd : Value}
 {b₀ : Stmt} {suite : List Stmt} {pos np : Pos} {rest : List ExceptHandler} {Q : Flow → Shared → Prop} {news : List (Addr × Obj)} {KF : Frag}
 {p : Program} {loose : List Str} {mg mb : Str → Option Value} {x : Str} {X T' : String}
theorem caught_made (K : Below A₀ base outer g) (F : Fr g L h m) (N : News g L h news) (hx : Heap.MadeExc h s'.heap e X []) (XB : KF.In base) (TB : TopRead p loose mg mb base)
  (ex : nsIn KF mainGlobals x = some none) (hv : bootBuiltins x = some (.type T')) (hn' : x ≠ "__name__")
  (hexc : isSubtype (.type T') (.type "BaseException") = pure true) (hnt : isSubtype (.type ((Manifest.find? T').elim "type" fun y => y.metatype)) (.type "tuple") = pure false) (hsub : isSubtype (.type X) (.type T') = pure true)
  (k : ∀ h' g',KtsTurn (frs outer) g g' → Fr g' L h' m → News g' L h' news → Below A₀ base outer g' → KF.In g' → TopRead p loose mg mb g' →
   wpAny (model prog w) ((A₀.deeper (envOf name scope L a cd)).mark (some (.ref e))) (execs (b₀ :: suite) (envOf name scope L a cd)) Q E { s' with heap := h' })
  (hk : scope.kind = .function := by rfl) (hxk : (envOf name scope L a cd).kindOf x = some .globalImplicit := by rfl) (hd : (x == ("__debug__" : Str)) = false := by decide)
  (hE : PassesOwnAt (model prog w) ((A₀.deeper (envOf name scope L a cd)).mark (some (.ref e))) (A₀.deeper (envOf name scope L a cd)) (envOf name scope L a cd) E := by passes_own) :
  wpAny (model prog w) (A₀.deeper (envOf name scope L a cd)) (noteFrame (.ref e) (envOf name scope L a cd))
   (fun _ s₂ => wpAny (model prog w) (A₀.deeper (envOf name scope L a cd)) (setFlight (.ref e) none) (fun _ s₃ =>
    wpAny (model prog w) (A₀.deeper (envOf name scope L a cd)) (handleBy (.ref e) (envOf name scope L a cd) (.ExceptHandler (some (.Name x np)) none (b₀ :: suite) pos :: rest)) Q E s₃) E s₂) E s' := by
 have K' := K.push (name := name) (a := a) (cd := cd) F hk
 have hin : ∀ env ∈ (envOf name scope L a cd :: outer),∀ b,env.frame = some b → b ∈ (envOf name scope L a cd :: outer).filterMap (·.frame) := fun env he b hb => List.mem_filterMap.mpr ⟨env,he,hb⟩
 have hBG : ∀ b o,h.get? b = some o → b ∉ (envOf name scope L a cd :: outer).filterMap (·.frame) → (hideAll h ((envOf name scope L a cd :: outer).filterMap (·.frame))).get? b = some o := fun b o q nm => hideAll_get _ q nm
 have hl : ∀ q ∈ news,(hideAll h ((envOf name scope L a cd :: outer).filterMap (·.frame))).get? q.1 = some q.2 := fun q hq => by
  refine hideAll_get _ (N q hq).1 fun hm => ?_
  obtain ⟨env,he,hf⟩ := List.mem_filterMap.mp hm
  rcases List.mem_cons.mp he with rfl | he
  ·exact (N q hq).2.1 (Option.some.inj hf).symm
  ·obtain ⟨o,ho,_⟩ := (K.frames.mem (List.mem_filterMap.mpr ⟨env,he,hf⟩)).2
   rw [(N q hq).2.2] at ho; cases ho
 have FB := funFrames_hide K'.frames hin
 generalize hBd : hideAll h ((envOf name scope L a cd :: outer).filterMap (·.frame)) = B at hBG hl FB
 have hBh : B.StaysIn h := fun b o q => of_hideAll _ (hBd ▸ q)
 have hen : B.get? e = none := by
  cases q : B.get? e with
  | none => rfl
  | some o => have := hBh _ _ q; rw [hx.new] at this; cases this
 obtain ⟨t,he,htn,ht⟩ := hx.there
 unfold noteFrame
 simp only [envOf]
 refine wpAny_bind (wpAny_field he rfl (x := .none) rfl ?_)
 rw [if_neg (by decide)]
 refine wpAny_entryW (base := B) (a0 := .ref t) K'.stack (FB.of_keeps fun b o hb _ => ⟨o,hx.keeps b o hb,rfl⟩) rfl he (fun b o hb => hx.keeps b o (hBh b o hb)) hen rfl (by show 1 < 6; decide) rfl fun h₄ hN => ?_
 obtain ⟨k1,k2,k3,k4⟩ := hN
 refine wpAny_landsW (base := B) (l := envOf name scope L a cd :: outer) (L := L) (cls := .type X) (a0 := .ref t) ⟨k1,hen,k2,k3⟩ fun h₅ hheld hsm₅' => ?_
 have hsm₅ : h.UpToSlots h₅ := ((Heap.UpToSlots.of_keeps hx.keeps).trans k4).trans hsm₅'
 obtain ⟨g₅,T₅,F₅,K₅⟩ := kts_ground K F hBG hheld.1 hsm₅
 have X₅ : KF.In g₅ := XB.keeps K₅.stays
 have P₅ : TopRead p loose mg mb g₅ := TB.keeps K₅.stays
 obtain ⟨ob,hob,hobc⟩ := hheld.there
 refine wpAny_handleBy_builtin (X := X) (T := T') (b := true) hexc hnt hsub (name_B F₅ X₅ P₅ ex hv hn' ⟨rfl,⟨ob,hob,hobc⟩,?_⟩ hk hxk hd)
 refine lands_againW hheld fun h₆ hfl₆ hsm₆ => ?_
 obtain ⟨g₆,T₆,F₆,K₆⟩ := kts_ground K F hBG hfl₆.1 (hsm₅.trans hsm₆)
 refine wpAny_passesOwnAt hE (k h₆ g₆ T₆ F₆ (fun q hq => ⟨hfl₆.1 _ _ (hl q hq),(N q hq).2.1,T₆.none_ _ (N q hq).2.2⟩) K₆ (XB.keeps K₆.stays) (TB.keeps K₆.stays))
end
end
section
open PySem PySem.W PySem.Calls PyProof.Rows
noncomputable def itO (l : Addr) (i : Nat) : Obj := { cls := .type "list_iterator",data := .fields #[.ref l,.int i 0] }
noncomputable def itEnd (i : Nat) : Obj := { cls := .type "list_iterator",data := .fields #[.none,.int i 0] }
noncomputable def mwO (it : Addr) : Obj := { cls := .type "method-wrapper",data := .fields #[.builtin "list_iterator.__next__",.ref it] }
theorem check_mw (it : Addr) : checkBoundCall "list_iterator.__next__" ⟨[.ref it],[]⟩ = pure () := by first | kernel_rfl | rfl
section
variable {prog : Program} {w : World} {A : Around} {E : Value → Shared → Prop} {s : Shared} {q it l : Addr} {vs : List Value} {i : Nat} {Q : Value → Shared → Prop}
end
theorem li_slot : Slot "list_iterator" "__getattribute__" "object.__getattribute__" :=
 .of (owner := "object") (n := "__getattribute__") (by rw [typeLookup_type,builtinLookup_eq_fast]; kernel_rfl) (by decide +kernel) (by decide +kernel) (by decide +kernel)
  (by first | exact .inl (by decide +kernel) | exact .inr (by decide +kernel)) (by rw [isSubtype_type]; kernel_rfl)
theorem li_entry : entryFor table "object.__getattribute__" = some Builtin.«object.__getattribute__» := by first | exact entryFor_of_fast (by kernel_rfl) | exact entryFor_of_tree (by kernel_rfl)
theorem li_args (a b : Value) : argsOk "object.__getattribute__" ⟨[a,b],[]⟩ := by unfold argsOk; kernel_rfl
theorem wd_type : typeOf (.builtin "list_iterator.__next__") = pure (.type "wrapper_descriptor") := by show builtinType _ = _; rw [builtinType_eq_fast]; kernel_rfl
theorem wd_slot : Slot "wrapper_descriptor" "__get__" "wrapper_descriptor.__get__" :=
 .of (owner := "wrapper_descriptor") (n := "__get__") (by rw [typeLookup_type,builtinLookup_eq_fast]; kernel_rfl) (by decide +kernel) (by decide +kernel) (by decide +kernel)
  (by first | exact .inl (by decide +kernel) | exact .inr (by decide +kernel)) (by rw [isSubtype_type]; kernel_rfl)
theorem wd_entry : entryFor table "wrapper_descriptor.__get__" = some Builtin.«wrapper_descriptor.__get__» := by first | exact entryFor_of_fast (by kernel_rfl) | exact entryFor_of_tree (by kernel_rfl)
theorem wd_args (a b c : Value) : argsOk "wrapper_descriptor.__get__" ⟨[a,b,c],[]⟩ := by unfold argsOk; kernel_rfl
theorem wd_noset : typeLookup (.type "wrapper_descriptor") "__set__" = pure none := by rw [typeLookup_type,builtinLookup_eq_fast]; kernel_rfl
theorem wd_nodel : typeLookup (.type "wrapper_descriptor") "__delete__" = pure none := by rw [typeLookup_type,builtinLookup_eq_fast]; kernel_rfl
theorem wd_owner : (".".intercalate ("list_iterator.__next__".cutAt '.').dropLast) = "list_iterator" := by first | decide +kernel | kernel_rfl
theorem li_sub : isSubtype (.type "list_iterator") (.type "list_iterator") = pure true := by rw [isSubtype_type]; kernel_rfl
section
variable {prog : Program} {w : World} {A : Around} {E : Value → Shared → Prop} {h : Heap} {g : Array GenState} {d : Drawn} {t : Nat} {os : OsState} {a l : Addr} {i : Nat} {o : Obj}
set_option maxRecDepth 100000 in
theorem wd_get {R : Result → Shared → Prop} (hx : h.get? a = some o) (hc : o.cls = .type "list_iterator") (hq : R (.ok (.ret (.ref h.objs.size))) ⟨h.push (mwO a),g,d,t,os⟩) :
  codeAny (model prog w) A (.call (.builtin "wrapper_descriptor.__get__") ⟨[.builtin "list_iterator.__next__",.ref a,.type "list_iterator"],[]⟩) R ⟨h,g,d,t,os⟩ := by
 have hT : (⟨h,g,d,t,os⟩ : Shared).TypeIs (.ref a) "list_iterator" := ⟨_,hx,hc⟩
 have hT5 : (⟨h,g,d,t,os⟩ : Shared).TypeIs (.builtin "list_iterator.__next__") "wrapper_descriptor" := wd_type
 have f8 : isSubtype (.type "list_iterator") (.type (".".intercalate ("list_iterator.__next__".cutAt '.').dropLast)) = pure true := by rw [wd_owner]; exact li_sub
 refine codeAny_call_builtin wd_slot.plain wd_entry (wd_slot.check _ _ _ _ _ _ _ _ hT5 (wd_args _ _ _) ?_)
 repeat (any_goals (first | assumption | wp_step))
set_option maxRecDepth 100000 in
theorem ga_next {tk : Tok} {Q : Fin → Shared → Prop} (hx : h.get? a = some (itO l i)) (hq : Q (.done (.ret (.ref h.objs.size))) ⟨h.push (mwO a),g,d,t,os⟩) :
  wpAny (model prog w) A (Builtin.«object.__getattribute__» ⟨[.ref a,.str "__next__" tk],[]⟩) Q E ⟨h,g,d,t,os⟩ := by
 have hT : (⟨h,g,d,t,os⟩ : Shared).TypeIs (.ref a) "list_iterator" := ⟨_,hx,rfl⟩
 have hT5 : (⟨h,g,d,t,os⟩ : Shared).TypeIs (.builtin "list_iterator.__next__") "wrapper_descriptor" := wd_type
 have f4 := slot_listiter_next.lookup
 have f5 := wd_type
 have f6 := wd_slot.lookup
 have f7 := wd_noset
 have f8 := wd_nodel
 unfold itO at hx
 repeat (any_goals (first | assumption | wp_step))
 refine wd_get hx rfl ?_
 repeat (any_goals (first | assumption | wp_step))
theorem ga_call {tk : Tok} {R : Result → Shared → Prop} (hx : h.get? a = some (itO l i)) (hq : R (.ok (.ret (.ref h.objs.size))) ⟨h.push (mwO a),g,d,t,os⟩) :
  codeAny (model prog w) A (.call (.builtin "object.__getattribute__") ⟨[.ref a,.str "__next__" tk],[]⟩) R ⟨h,g,d,t,os⟩ :=
 codeAny_call_builtin li_slot.plain li_entry (li_slot.check _ _ _ _ _ _ _ _ (show (⟨h,g,d,t,os⟩ : Shared).TypeIs (.ref a) "list_iterator" from ⟨_,hx,rfl⟩) (li_args _ _) (ga_next hx hq))
set_option maxRecDepth 100000 in
theorem attr_next {Q : Value → Shared → Prop} (hx : h.get? a = some (itO l i)) (hq : Q (.ref h.objs.size) ⟨h.push (mwO a),g,d,t + 1,os⟩) :
  wpAny (model prog w) A (getAttr (.ref a) "__next__" true) Q E ⟨h,g,d,t,os⟩ := by
 have hT : (⟨h,g,d,t + 1,os⟩ : Shared).TypeIs (.ref a) "list_iterator" := ⟨_,hx,rfl⟩
 have f2 := li_slot.lookup
 have f3 := li_slot.bind (.ref a)
 unfold getAttr
 repeat (any_goals (first | assumption | wp_step))
 refine ga_call hx ?_
 exact handed_on rfl hq
end
end
section
open PySem PySem.W PySem.Calls PyProof.Rows
section
variable {prog : Program} {w : World} {A : Around} {s : Shared} {env : Env} {g₀ : Heap} {Q : Flow → Shared → Prop} {G : Heap → Prop}
end
end
section
open PySem PySem.W PySem.Calls PyProof.Rows
section
variable {w : World} {A A₀ : Around} {s : Shared} {base h₀ : Heap} {outer : List Env} {mg mb : Str → Option Value} {p : Program} {loose : List Str} {E Q : Value → Shared → Prop} {L : Addr} {m : Str → Option Value} {led rest : List (Addr × Obj)} {pre : Heap → Prop} {post : Value → List (Addr × Obj) → Prop} {dp un : Nat} {f : Addr} {args : List Value}
theorem reground {g g' h' : Heap} {env : Env} (B : Below A₀ base outer h₀) (F : Fr h₀ L g m) (hf : env.frame = some L) (T : KtsTurn (frs (env :: outer)) g g') (hst : g'.StaysIn h') :
  ∃ h₀',KtsTurn (frs outer) h₀ h₀' ∧ Fr h₀' L h' m ∧ Below A₀ base outer h₀' ∧ (∀ b o,g.get? b = some o → b ∉ frs (env :: outer) → h'.get? b = some o) := by
 have hmem : ∀ b,b ∈ frs (env :: outer) → b = L ∨ b ∈ frs outer := fun b hb => by
  obtain ⟨e,he,hfe⟩ := List.mem_filterMap.mp hb
  rcases List.mem_cons.mp he with rfl | he
  ·rw [hf] at hfe
   exact .inl (Option.some.inj hfe).symm
  ·exact .inr (List.mem_filterMap.mpr ⟨e,he,hfe⟩)
 have hL0 := kts_self F
 obtain ⟨TT,S⟩ := kts_turn_at (h := g') (fs := frs outer) (g := h₀)
  (fun b hb => by
   obtain ⟨_,o,ho,_⟩ := B.frames.mem hb
   exact ⟨o,ho⟩)
  (fun b o e nm => T.other b o (F.keep b o e) fun hm => by
   rcases hmem b hm with z | z
   ·rw [z,hL0] at e; cases e
   ·exact nm z)
  (fun b o e hm => T.frame b o (F.keep b o e) (by
   obtain ⟨e',he',hfe⟩ := List.mem_filterMap.mp hm
   exact List.mem_filterMap.mpr ⟨e',.tail _ he',hfe⟩))
 refine ⟨_,TT,⟨?_,fun b o e => hst b o (S b o e),by rw [TT.size]; exact F.above⟩,⟨B.stack,fun b o e => TT.other b o (B.stays b o e) (fun hm => by
  rw [(B.frames.mem hm).1] at e
  cases e),B.frames.of_keeps fun b o e _ => ?_⟩,fun b o e nm => hst b o (T.other b o e nm)⟩
 ·obtain ⟨o,es,ep,ho,hd,r⟩ := F.ns
  obtain ⟨sl,hs⟩ := T.up ho
  exact ⟨_,es,ep,hst _ _ hs,hd,r⟩
 ·obtain ⟨sl,hs⟩ := TT.up e
  exact ⟨_,hs,rfl⟩
end
end
section
open PySem PySem.W PySem.Calls PyProof.Rows
section
variable {prog : Program} {w : World} {A : Around} {E : Value → Shared → Prop} {s : Shared} {h₀ : Heap} {L l a : Addr} {i : Nat} {m : Str → Option Value} {news : List (Addr × Obj)} {vs : List Value} {Q : Value → Shared → Prop}
theorem iter_listN (F : Fr h₀ L s.heap m) (N : News h₀ L s.heap news) (hl : s.heap.IsList l vs.toArray)
  (h : ∀ (I : Addr) h',Fr h₀ L h' m → News h₀ L h' ((I,itO l 0) :: news) → (∀ p ∈ news,p.1 < I) → Q (.ref I) { s with heap := h' }) :
  wpAny (model prog w) A (call (.builtin "iter") [.ref l]) Q E s := by
 refine call_function_entry (by decide +kernel) (by decide +kernel) kdk_entry_iter (kdk_args_iter _) ?_
 unfold Builtin.«iter»
 refine wpAny_bind (m := someArgs "iter" 1 2 _) (wpAny_of_eq (a := [Value.ref l]) (by first | rfl | kernel_rfl!) ?_)
 show wpAny _ _ (pyIter (.ref l) >>= _) _ _ _
 refine wpAny_bind (wpAny_pyIter_list hl ?_)
 exact wpAny_pure ⟨_,rfl,h _ _ (F.push _) (News.push F N _ rfl) (fun q hq => Heap.lt_size (N q hq).1)⟩
theorem attr_nextN (F : Fr h₀ L s.heap m) (N : News h₀ L s.heap news) (hm : (a,itO l i) ∈ news)
  (h : ∀ (D : Addr) h',Fr h₀ L h' m → News h₀ L h' ((D,mwO a) :: news) → (∀ p ∈ news,p.1 < D) → Q (.ref D) { s with heap := h',toks := s.toks + 1 }) :
  wpAny (model prog w) A (getAttr (.ref a) "__next__" true) Q E s := by
 obtain ⟨hh,g,d,t,os⟩ := s
 refine attr_next (N _ hm).1 ?_
 exact h _ _ (F.push _) (News.push F N _ rfl) (fun q hq => Heap.lt_size (N q hq).1)
end
section
variable {prog : Program} {w : World} {A : Around} {E : Value → Shared → Prop} {s : Shared} {Q : Value → Shared → Prop}
end
section
variable {prog : Program} {w : World} {A : Around} {E : Value → Shared → Prop} {s : Shared} {h₀ : Heap} {L D : Addr} {m : Str → Option Value} {news : List (Addr × Obj)} {g : Obj → List (Addr × Obj)} {p : List Value} {y : Value} {n : Nat} {Q : Value → Shared → Prop}
end
end
section
open PySem PySem.W PySem.Calls PyProof.Rows
section
variable {prog : Program} {w : World} {A : Around} {s : Shared} {env : Env}
theorem comp_values {elt target iter : Expr} {ifs : List Expr} {scope : Scope} {pos : Pos} {cl : List (Str × Addr)} {use : Option (Value → Sem Unit)} {Q : Value → Shared → Prop} {v d : Addr} {o : Obj} {kvs : List (Int × Value)}
  (J : Addr → Nat → List Value → (Str → Option Value) → List (Addr × Obj) → Prop) (hh : A.handled = none) (hv : s.heap.IsValuesView v d) (hdo : s.heap.get? d = some o) (ho : o.IsDictOf (PySem.intKind prog w) kvs)
  (hkind : scope.kind = .function) (h0 : ∀ C,J C 0 [] (fun _ => none) (cellNews (C + 1) scope.names)) (hys : ∀ C i ys m₁ news₁,J C i ys m₁ news₁ → ys.length ≤ 1000)
  (turn : ∀ C D I (i : Nat) (k : Int) v ys m₁ news₁ io h tk no,kvs[i]? = some (k,v) → J C i ys m₁ news₁ → (∀ p ∈ news₁,p.1 ≠ I ∧ p.1 ≠ D) → Fr s.heap C h m₁ → News s.heap C h ((I,io) :: (D,PySem.W.listOf (List.toArray ys) no) :: news₁) →
   wpAny (model prog w) A (assign target (compEnvC scope (cellsFrom (C + 1) scope.names cl) C env) v) (fun _ s₂ =>
    wpAny (model prog w) A (forIn ifs true fun c r => if r = true then do let ok ← isTrue c (compEnvC scope (cellsFrom (C + 1) scope.names cl) C env) (eval c (compEnvC scope (cellsFrom (C + 1) scope.names cl) C env)); pure (ForInStep.yield ok) else pure (ForInStep.yield r)) (fun ok s₃ =>
     if ok = true then wpAny (model prog w) A (eval elt (compEnvC scope (cellsFrom (C + 1) scope.names cl) C env)) (fun y s₄ => CEnd s.heap C I io D no ys (J C (i + 1) (ys ++ [y])) { s with heap := h,toks := tk } s₄) (fun _ _ => False) s₃
     else CEnd s.heap C I io D no ys (J C (i + 1) ys) { s with heap := h,toks := tk } s₃) (fun _ _ => False) s₂) (fun _ _ => False) { s with heap := h,toks := tk })
  (done : ∀ C D ys m₁ news₁ h tk no,J C kvs.length ys m₁ news₁ → (∀ p ∈ news₁,p.1 ≠ D) → Fr s.heap C h m₁ → News s.heap C h ((D,PySem.W.listOf (List.toArray ys) no) :: news₁) → compPost (model prog w) A (fun _ _ => False) use Q (.ref D) C (.ok .next) { s with heap := h,toks := tk })
  (ht : ∀ I v,letOwnedTupleGo target (.ref I) v = pure () := by intro _ _; rfl) :
  CompAt prog w A elt target iter ifs scope pos cl env use Q (.ref v) s := by
 obtain ⟨es,ep,hx,hdat,hks,hps,hnd⟩ := ho
 have at' : ∀ h : Heap,h.get? d = some o → h.DictAt (PySem.intKind prog w) d kvs ep := fun h e => ⟨o,es,e,hx,hdat,hks,hps,hnd⟩
 have hne : d ≠ s.heap.objs.size := Nat.ne_of_lt (Heap.lt_size hdo)
 unfold CompAt
 refine wpAny_pyIter_values hv (at' _ hdo) ?_
 have Wk := Walks.dictValues (prog := prog) (w := w) (knd := PySem.intKind prog w) hh s.heap.objs.size d hne kvs ep
 refine comp_block (h₁ := s.heap) Wk (fun i h st => by obtain ⟨⟨o,ho,_⟩,_⟩ := st; exact ⟨o,ho⟩) ⟨⟨_,Heap.get?_push_size _ rfl,rfl,rfl⟩,at' _ (Heap.get?_push_of_some _ hdo)⟩ (fun b o e => Heap.get?_push_of_some _ e) rfl (Heap.size_push _ _) hkind J h0 hys ?_
  (fun C D i v ys m₁ news₁ io h tk no _ hP => by
   obtain ⟨k,hk⟩ := hP
   exact turn C D _ i k v ys m₁ news₁ io h tk no hk) done (ht _)
 intro C i ys m₁ news₁ h h' io hJ F₁ N₁ st hio
 refine ⟨?_,at' _ (F₁.keep _ _ hdo)⟩
 obtain ⟨o,ho,r⟩ := st.1
 rw [hio] at ho
 cases ho
 exact ⟨io,(N₁ _ (.head _)).1,r⟩
end
end
section
open PySem PySem.W PySem.Calls PyProof.Rows
theorem kf_ints_of {vs : List Value} {ns : List Int} (h : IntsAre vs ns) : kf_ints vs = true := by
 induction h with
 | nil => rfl
 | cons n t _ ih => exact ih
theorem remove_at {k : Int} {vs : List Value} {ns : List Int} (h : IntsAre vs ns) (hk : k ∈ ns) : ∃ j q,kf_at k vs = some j ∧ ki_delL vs j = some q ∧ IntsAre q (ns.erase k) := by
 induction h with
 | nil => cases hk
 | @cons n t vs' ns' h' ih =>
  by_cases e : n = k
  ·subst e
   refine ⟨0,vs',?_,rfl,?_⟩
   ·show cond (isInt n (.int n t)) (some 0) _ = _
    rw [show isInt n (.int n t) = true by simp [isInt]]
    rfl
   ·rw [List.erase_cons_head]; exact h'
  ·have hk' : k ∈ ns' := by
    rcases List.mem_cons.mp hk with h | h
    ·exact absurd h.symm e
    ·exact h
   obtain ⟨j,q,h1,h2,h3⟩ := ih hk'
   refine ⟨j + 1,.int n t :: q,?_,?_,?_⟩
   ·show cond (isInt k (.int n t)) (some 0) _ = _
    rw [show isInt k (.int n t) = false by simp [isInt,e],h1]
    rfl
   ·show (match ki_delL vs' j with | some q => some (Value.int n t :: q) | none => none) = _
    rw [h2]
   ·rw [List.erase_cons_tail (by simpa using e)]
    exact .cons _ _ h3
section
variable {prog : Program} {w : World} {A : Around} {E : Value → Shared → Prop} {s : Shared} {h₀ : Heap} {L D b : Addr} {m : Str → Option Value} {news : List (Addr × Obj)} {g : Obj → List (Addr × Obj)} {vs ws : List Value} {n n2 : Nat} {Q : Value → Shared → Prop}
end
end
section
open PySem
open PySem.Float64
noncomputable def IsI (x : UInt64) (n : Int) : Prop := (∃ a m e,decode x = .fin a m e) ∧ val x = n * ((2 ^ 1074 : Nat) : Int)
theorem twoPow_pos : 0 < (2 ^ 1074 : Nat) := Nat.two_pow_pos _
theorem exists_V {n : Nat} (h : n < 2 ^ 53) : ∃ t,t < infMag ∧ V t = n * 2 ^ 1074 := by
 have hi : infMag = 2047 * 2 ^ 52 := rfl
 by_cases h0 : n = 0
 ·subst h0; exact ⟨0,by rw [hi]; decide,by rw [V_zero,Nat.zero_mul]⟩
 ·have hl : n.log2 ≤ 52 := by
   have := (Nat.log2_lt h0).mpr h
   exact Nat.le_of_lt_succ ‹_›
  have h1 : 2 ^ n.log2 ≤ n := (Nat.le_log2 h0).mp (Nat.le_refl _)
  have h2 : n < 2 ^ (n.log2 + 1) := Nat.lt_log2_self
  generalize n.log2 = l at hl h1 h2
  have e1 : (2 : Nat) ^ 52 = 2 ^ l * 2 ^ (52 - l) := by rw [← Nat.pow_add]; congr 1; grind
  have e2 : (2 : Nat) ^ 53 = 2 ^ (l + 1) * 2 ^ (52 - l) := by rw [← Nat.pow_add]; congr 1; grind
  have q1 : 2 ^ 52 ≤ n * 2 ^ (52 - l) := by rw [e1]; exact Nat.mul_le_mul_right _ h1
  have q2 : n * 2 ^ (52 - l) < 2 ^ 53 := by rw [e2]; exact Nat.mul_lt_mul_of_pos_right h2 (Nat.two_pow_pos _)
  refine ⟨(1074 - (52 - l)) * 2 ^ 52 + n * 2 ^ (52 - l),?_,?_⟩
  ·rw [hi]
   have : (1074 - (52 - l)) * 2 ^ 52 ≤ 1074 * 2 ^ 52 := Nat.mul_le_mul_right _ (by exact Nat.sub_le _ _)
   lia
  ·rw [V_at (Nat.le_of_lt q2) (.inl q1),Nat.mul_assoc,← Nat.pow_add]
   congr 2
   lia
theorem dist_self (a : Nat) : dist a a = 0 := by unfold dist; simp
theorem eq_of_dist {a b : Nat} (h : dist a b ≤ 0) : a = b := by unfold dist at h; lia
theorem right_exact {r : UInt64} {neg : Bool} {W D n : Nat} (R : Right r neg W D) (hW : W = D * (n * 2 ^ 1074)) (hn : n < 2 ^ 53) (hD : 0 < D) :
  (∃ a m e,decode r = .fin a m e) ∧ val r = sgn neg (n * 2 ^ 1074) := by
 obtain ⟨t,rfl,hle,hov,hnear⟩ := R
 obtain ⟨t',ht',hv'⟩ := exists_V hn
 have hne : t ≠ infMag := fun e => by
  have h := hov.mp e
  rw [hW] at h
  have h3 : D * ((2 ^ 54 - 1) * 2 ^ 2045) ≤ D * (2 * (n * 2 ^ 1074)) := by
   have : 2 * (D * (n * 2 ^ 1074)) = D * (2 * (n * 2 ^ 1074)) := Nat.mul_left_comm 2 D _
   grind
  have h4 := Nat.le_of_mul_le_mul_left h3 hD
  have h5 : 2 * (n * 2 ^ 1074) < 2 * (2 ^ 53 * 2 ^ 1074) := Nat.mul_lt_mul_of_pos_left (Nat.mul_lt_mul_of_pos_right hn twoPow_pos) (by decide)
  have h6 : 2 * (2 ^ 53 * 2 ^ 1074) ≤ (2 ^ 54 - 1) * 2 ^ 2045 := by decide +kernel
  lia
 have hlt : t < infMag := by exact Nat.lt_of_le_of_ne ‹_› ‹_›
 have h1 := (hnear hlt t').1
 rw [hv',hW,dist_self] at h1
 have h2 : V t = n * 2 ^ 1074 := (Nat.eq_of_mul_eq_mul_left hD (eq_of_dist h1)).symm
 obtain ⟨m,e,hd,_⟩ := decode_pack neg hlt
 exact ⟨⟨_,_,_,hd⟩,by rw [val_pack neg hlt,h2]⟩
theorem sgn_decide (z : Int) (k : Nat) : sgn (decide (z < 0)) (z.natAbs * k) = z * (k : Int) := by
 rw [sgn_mul]
 congr 1
 unfold sgn
 by_cases h : z < 0
 ·simp [h]; omega
 ·simp [h]; lia
theorem isI_zero (b : Bool) : IsI (zero b) 0 := by
 have hi : infMag = 2047 * 2 ^ 52 := rfl
 have hlt : 0 < infMag := by rw [hi]; decide
 obtain ⟨m,e,hd,hv⟩ := decode_pack b hlt
 refine ⟨⟨_,_,_,hd⟩,?_⟩
 show val (pack b 0) = _
 rw [val_pack b hlt,V_zero,Int.zero_mul]
 unfold sgn; cases b <;> rfl
theorem natAbs_scale (z : Int) (k : Nat) : (z * (k : Int)).natAbs = z.natAbs * k := by rw [Int.natAbs_mul,Int.natAbs_natCast]
theorem scale_zero {z : Int} {k : Nat} (hk : 0 < k) (h : z * (k : Int) = 0) : z = 0 := by
 rcases Int.mul_eq_zero.mp h with h | h
 ·exact h
 ·lia
theorem scale_neg {z : Int} {k : Nat} (hk : 0 < k) : (z * (k : Int) < 0) ↔ z < 0 := by
 constructor
 ·intro h
  apply Classical.byContradiction
  intro q
  have : 0 ≤ z * (k : Int) := Int.mul_nonneg (by exact Int.not_lt.mp ‹_›) (by exact Int.natCast_nonneg _)
  lia
 ·intro h
  exact Int.mul_neg_of_neg_of_pos h (by exact Int.ofNat_lt.mpr ‹_›)
theorem isI_ofInt {n : Int} (h : n.natAbs < 2 ^ 53) : IsI (ofInt n) n := by
 obtain ⟨hd,hv⟩ := right_exact (ofInt_right n) (n := n.natAbs) (by rw [Nat.one_mul]) h (by decide)
 exact ⟨hd,by rw [hv,sgn_decide]⟩
theorem isI_neg {x : UInt64} {a : Int} (hx : IsI x a) : IsI (neg x) (-a) := by
 obtain ⟨⟨s,m,e,hd⟩,hv⟩ := hx
 exact ⟨⟨_,_,_,neg_decode hd⟩,by rw [neg_val hd,hv,Int.neg_mul]⟩
theorem isI_add {x y : UInt64} {a b : Int} (hx : IsI x a) (hy : IsI y b) (h : (a + b).natAbs < 2 ^ 53) : IsI (add x y) (a + b) := by
 obtain ⟨⟨s,m,e,hdx⟩,hvx⟩ := hx
 obtain ⟨⟨t,k,f,hdy⟩,hvy⟩ := hy
 have R := add_right hdx hdy
 rw [hvx,hvy,← Int.add_mul] at R
 by_cases h0 : (a + b) * ((2 ^ 1074 : Nat) : Int) = 0
 ·rw [R.1 h0,scale_zero twoPow_pos h0]
  exact isI_zero _
 ·have R2 := R.2 h0
  rw [natAbs_scale] at R2
  obtain ⟨hd,hv⟩ := right_exact R2 (by rw [Nat.one_mul]) h (by decide)
  refine ⟨hd,?_⟩
  rw [hv]
  have : decide ((a + b) * ((2 ^ 1074 : Nat) : Int) < 0) = decide (a + b < 0) := decide_eq_decide.mpr (scale_neg twoPow_pos)
  rw [this,sgn_decide]
theorem isI_sub {x y : UInt64} {a b : Int} (hx : IsI x a) (hy : IsI y b) (h : (a - b).natAbs < 2 ^ 53) : IsI (sub x y) (a - b) := by
 have := isI_add hx (isI_neg hy) (by rw [← Int.sub_eq_add_neg]; exact h)
 rw [← Int.sub_eq_add_neg] at this
 unfold sub
 exact this
theorem sgn_cases (s : Bool) (m : Nat) : (s = true ∧ sgn s m = -(m : Int)) ∨ (s = false ∧ sgn s m = m) := by cases s <;> simp [sgn]
theorem flag_of {x : UInt64} {s : Bool} {m : Nat} {e : Int} {a : Int} {k : Nat} (hd : decode x = .fin s m e) (hv : val x = a * (k : Int)) (hk : 0 < k) : a = sgn s a.natAbs := by
 rw [val_eq hd] at hv
 rcases sgn_cases s (m * 2 ^ (e + 1074).toNat) with ⟨rfl,h⟩ | ⟨rfl,h⟩
 ·rw [h] at hv
  have : ¬ 0 < a := fun q => by
   have : 0 < a * (k : Int) := Int.mul_pos q (by exact Int.ofNat_lt.mpr ‹_›)
   omega
  simp [sgn]; omega
 ·rw [h] at hv
  have : ¬ a < 0 := fun q => by
   have := (scale_neg (z := a) hk).mpr q
   lia
  simp [sgn]; lia
theorem sgn_xor (s t : Bool) (m k : Nat) : sgn (s != t) (m * k) = sgn s m * sgn t k := by
 cases s <;> cases t <;> simp [sgn,Int.neg_mul,Int.mul_neg]
theorem isI_mul {x y : UInt64} {a b : Int} (hx : IsI x a) (hy : IsI y b) (h : (a * b).natAbs < 2 ^ 53) : IsI (mul x y) (a * b) := by
 obtain ⟨⟨s,m,e,hdx⟩,hvx⟩ := hx
 obtain ⟨⟨t,k,f,hdy⟩,hvy⟩ := hy
 have R := mul_right hdx hdy
 have fa := flag_of hdx hvx twoPow_pos
 have fb := flag_of hdy hvy twoPow_pos
 rw [hvx,hvy,natAbs_scale,natAbs_scale] at R
 obtain ⟨hd,hv⟩ := right_exact R (n := (a * b).natAbs) (by rw [Int.natAbs_mul]; generalize 2 ^ 1074 = S; ac_rfl) h twoPow_pos
 refine ⟨hd,?_⟩
 rw [hv,sgn_mul]
 congr 1
 rw [Int.natAbs_mul,sgn_xor,← fa,← fb]
theorem isI_div {x y : UInt64} {q b : Int} (hx : IsI x (b * q)) (hy : IsI y b) (hb : b ≠ 0) (h : q.natAbs < 2 ^ 53) : IsI (div x y) q := by
 obtain ⟨⟨s,m,e,hdx⟩,hvx⟩ := hx
 obtain ⟨⟨t,k,f,hdy⟩,hvy⟩ := hy
 have hk : k ≠ 0 := fun h0 => by
  subst h0
  rw [val_eq hdy,Nat.zero_mul] at hvy
  have : sgn t 0 = 0 := by cases t <;> rfl
  rw [this] at hvy
  exact hb (scale_zero twoPow_pos hvy.symm)
 have R := div_right hdx hdy hk
 have fa := flag_of hdx hvx twoPow_pos
 have fb := flag_of hdy hvy twoPow_pos
 rw [hvx,hvy,natAbs_scale,natAbs_scale] at R
 have hbp : 0 < b.natAbs := by lia
 obtain ⟨hd,hv⟩ := right_exact R (n := q.natAbs) (by rw [Int.natAbs_mul]; generalize 2 ^ 1074 = S; ac_rfl) h (Nat.mul_pos hbp twoPow_pos)
 refine ⟨hd,?_⟩
 rw [hv,sgn_mul]
 congr 1
 rw [Int.natAbs_mul,Nat.mul_comm] at fa
 have e1 : b * q = sgn t b.natAbs * q := by rw [← fb]
 have e2 : sgn s (q.natAbs * b.natAbs) = sgn t b.natAbs * sgn (s != t) q.natAbs := by
  rw [Nat.mul_comm]
  cases s <;> cases t <;> simp [sgn,Int.neg_mul,Int.mul_neg]
 rw [e1,e2] at fa
 have hz : sgn t b.natAbs ≠ 0 := by rw [← fb]; exact hb
 exact (Int.eq_of_mul_eq_mul_left hz fa).symm
theorem isI_finite {x : UInt64} {a : Int} (hx : IsI x a) : isFinite x = true := by
 obtain ⟨⟨s,m,e,hd⟩,_⟩ := hx
 unfold isFinite; rw [hd]
theorem isI_notInf {x : UInt64} {a : Int} (hx : IsI x a) : isInf x = false := by
 obtain ⟨⟨s,m,e,hd⟩,_⟩ := hx
 unfold isInf; rw [hd]
theorem isI_isZero {x : UInt64} {a : Int} (hx : IsI x a) : isZero x = decide (a = 0) := by
 obtain ⟨⟨s,m,e,hd⟩,hv⟩ := hx
 rw [val_eq hd] at hv
 unfold isZero; rw [hd]
 cases m with
 | zero =>
  have : sgn s 0 = 0 := by cases s <;> rfl
  rw [Nat.zero_mul,this] at hv
  have := scale_zero twoPow_pos hv.symm
  simp [this]
 | succ m =>
  have : a ≠ 0 := fun h => by
   subst h
   rw [Int.zero_mul] at hv
   have h2 : 0 < (m + 1) * 2 ^ (e + 1074).toNat := Nat.mul_pos (Nat.succ_pos _) (Nat.two_pow_pos _)
   rcases sgn_cases s ((m + 1) * 2 ^ (e + 1074).toNat) with ⟨_,h⟩ | ⟨_,h⟩ <;> rw [h] at hv <;> omega
  simp [this]
theorem compare_scale (p q : Int) {k : Nat} (hk : 0 < k) : compare (p * (k : Int)) (q * (k : Int)) = compare p q := by
 have hK : (0 : Int) < k := by exact Int.ofNat_lt.mpr ‹_›
 rcases Int.lt_trichotomy p q with h | h | h
 ·rw [Int.compare_eq_lt.mpr h,Int.compare_eq_lt.mpr (Int.mul_lt_mul_of_pos_right h hK)]
 ·subst h; simp
 ·rw [Int.compare_eq_gt.mpr h,Int.compare_eq_gt.mpr (Int.mul_lt_mul_of_pos_right h hK)]
theorem isI_cmpInt {x : UInt64} {a : Int} (hx : IsI x a) (i : Int) : cmpInt x i = some (compare a i) := by
 obtain ⟨⟨s,m,e,hd⟩,hv⟩ := hx
 rw [cmpInt_right hd,hv]
 have : (2 : Int) ^ 1074 = ((2 ^ 1074 : Nat) : Int) := by simp
 rw [this,compare_scale _ _ twoPow_pos]
theorem isI_fma0 {x y z : UInt64} {a b : Int} (hx : IsI x a) (hy : IsI y b) (hz : IsI z (-(a * b))) : IsI (fma x y z) 0 := by
 obtain ⟨⟨s,m,e,hdx⟩,hvx⟩ := hx
 obtain ⟨⟨t,k,f,hdy⟩,hvy⟩ := hy
 obtain ⟨⟨c,n,g,hdz⟩,hvz⟩ := hz
 have he := decode_ge hdx
 have hf := decode_ge hdy
 have hg := decode_ge hdz
 have h0 : sgn (s != t) (m * k * 2 ^ (e + f - min (e + f) g).toNat) + sgn c (n * 2 ^ (g - min (e + f) g).toNat) = 0 := by
  refine scale_zero (k := 2 ^ (min (e + f) g + 2148).toNat) (Nat.two_pow_pos _) ?_
  rw [Int.add_mul,← sgn_mul,← sgn_mul,Nat.mul_assoc (m * k),Nat.mul_assoc n,← Nat.pow_add,← Nat.pow_add]
  have m1 : min (e + f) g ≤ e + f := Int.min_le_left _ _
  have m2 : min (e + f) g ≤ g := Int.min_le_right _ _
  have m3 : 0 ≤ min (e + f) g + 2148 := by
   have : -2148 ≤ min (e + f) g := Int.le_min.mpr ⟨Int.add_le_add he hf,Int.le_trans (by decide) hg⟩
   exact Int.add_le_add_right this 2148
  have f1 : 0 ≤ e + 1074 := Int.add_le_add_right he 1074
  have f2 : 0 ≤ f + 1074 := Int.add_le_add_right hf 1074
  have f3 : 0 ≤ g + 1074 := Int.add_le_add_right hg 1074
  have e1 : (e + f - min (e + f) g).toNat + (min (e + f) g + 2148).toNat = (e + 1074).toNat + (f + 1074).toNat := by
   rw [← Int.toNat_add (Int.sub_nonneg.mpr m1) m3,← Int.toNat_add f1 f2]
   exact congrArg Int.toNat (by rw [← Int.add_assoc,Int.sub_add_cancel]; lia)
  have e2 : (g - min (e + f) g).toNat + (min (e + f) g + 2148).toNat = (g + 1074).toNat + 1074 := by
   show _ = (g + 1074).toNat + (1074 : Int).toNat
   rw [← Int.toNat_add (Int.sub_nonneg.mpr m2) m3,← Int.toNat_add f3 (by decide)]
   exact congrArg Int.toNat (by rw [← Int.add_assoc,Int.sub_add_cancel]; lia)
  rw [e1,e2,Nat.pow_add,Nat.pow_add]
  have e3 : m * k * (2 ^ (e + 1074).toNat * 2 ^ (f + 1074).toNat) = (m * 2 ^ (e + 1074).toNat) * (k * 2 ^ (f + 1074).toNat) := by ac_rfl
  rw [e3,sgn_xor,← val_eq hdx,← val_eq hdy,← Nat.mul_assoc,sgn_mul,← val_eq hdz,hvx,hvy,hvz]
  generalize ((2 ^ 1074 : Nat) : Int) = S
  rw [Int.neg_mul,Int.neg_mul]
  have : a * S * (b * S) = a * b * S * S := by ac_rfl
  lia
 have : fma x y z = zero (if m * k == 0 && n == 0 then (s != t) && c else false) := by
  unfold fma align
  rw [hdx,hdy,hdz]
  simp only
  rw [h0]
  simp
 rw [this]
 exact isI_zero _
noncomputable def PartsAre (ps : List UInt64) (S : Int) : Prop := (ps = [] ∧ S = 0) ∨ ∃ y,ps = [y] ∧ IsI y S
theorem fsumAdd_isI {ps : List UInt64} {S a : Int} {x : UInt64} (hp : PartsAre ps S) (hx : IsI x a) (hS : S.natAbs < 2 ^ 50) (ha : a.natAbs < 2 ^ 50) :
  ∃ top,fsumAdd ps x = ([],top) ∧ IsI top (S + a) := by
 rcases hp with ⟨rfl,rfl⟩ | ⟨y,rfl,hy⟩
 ·exact ⟨x,rfl,by rw [Int.zero_add]; exact hx⟩
 ·have hi := isI_add hx hy (by exact ari ‹_› ‹_›)
  have hi' := isI_add hy hx (by exact ari ‹_› ‹_›)
  by_cases hl : lt (abs x) (abs y) = true
  ·have lo := isI_sub hx (isI_sub hi' hy (by exact arn ‹_›)) (by lia)
   have hz := isI_isZero lo
   refine ⟨add y x,?_,hi'⟩
   have e : (a - (S + a - S)) = 0 := by lia
   rw [e] at hz
   simp only [decide_true] at hz
   simp [fsumAdd,hl,hz]
  ·have lo := isI_sub hy (isI_sub hi hx (by exact arn ‹_›)) (by lia)
   have hz := isI_isZero lo
   refine ⟨add x y,?_,by rw [Int.add_comm]; exact hi⟩
   have e : (S - (a + S - a)) = 0 := by lia
   rw [e] at hz
   simp only [decide_true] at hz
   simp [fsumAdd,hl,hz]
theorem partsAre_next {top : UInt64} {S : Int} (h : IsI top S) : PartsAre (if isZero top then [] else [] ++ [top]) S := by
 rw [isI_isZero h]
 by_cases h0 : S = 0
 ·left; simp [h0]
 ·right; exact ⟨top,by simp [h0],h⟩
theorem fsumEnd_isI {ps : List UInt64} {S : Int} (hp : PartsAre ps S) : IsI (fsumEnd ps) S := by
 rcases hp with ⟨rfl,rfl⟩ | ⟨y,rfl,hy⟩
 ·exact isI_zero false
 ·exact hy
open PySem.Builtin.Math in
theorem dlSum_isI {x y : UInt64} {a b : Int} (hx : IsI x a) (hy : IsI y b) (ha : a.natAbs < 2 ^ 50) (hb : b.natAbs < 2 ^ 50) : IsI (dlSum x y).1 (a + b) ∧ IsI (dlSum x y).2 0 := by
 have h1 := isI_add hx hy (by exact ari ‹_› ‹_›)
 have hz := isI_sub h1 hx (by exact arn ‹_›)
 have h2 := isI_sub h1 hz (by lia)
 have h3 := isI_sub hx h2 (by lia)
 have h4 := isI_sub hy hz (by lia)
 have h5 := isI_add h3 h4 (by lia)
 refine ⟨h1,?_⟩
 have e : a - (a + b - (a + b - a)) + (b - (a + b - a)) = 0 := by lia
 rw [e] at h5
 exact h5
noncomputable def ThreeAre (t : UInt64 × UInt64 × UInt64) (S : Int) : Prop := IsI t.1 S ∧ IsI t.2.1 0 ∧ IsI t.2.2 0
open PySem.Builtin.Math in
theorem tlFma_isI {x y : UInt64} {t : UInt64 × UInt64 × UInt64} {a b S : Int} (hx : IsI x a) (hy : IsI y b) (ht : ThreeAre t S) (hab : (a * b).natAbs < 2 ^ 50) (hS : S.natAbs < 2 ^ 50) : ThreeAre (tlFma x y t) (S + a * b) := by
 obtain ⟨h1,h2,h3⟩ := ht
 have p1 := isI_mul hx hy (by exact ark ‹_›)
 have p2 := isI_fma0 hx hy (isI_neg p1)
 have sm := dlSum_isI h1 p1 hS hab
 have r1 := dlSum_isI h2 p2 (by decide) (by decide)
 have r2 := dlSum_isI r1.1 sm.2 (by decide) (by decide)
 refine ⟨sm.1,r2.1,?_⟩
 exact isI_add (isI_add h3 r1.2 (by decide)) r2.2 (by decide)
open PySem.Builtin.Math in
theorem tlToFloat_isI {t : UInt64 × UInt64 × UInt64} {S : Int} (ht : ThreeAre t S) (hS : S.natAbs < 2 ^ 50) : IsI (tlToFloat t) S := by
 obtain ⟨h1,h2,h3⟩ := ht
 have l := dlSum_isI h2 h1 (by decide) hS
 have := isI_add (isI_add h3 l.2 (by decide)) l.1 (by exact arm ‹_›)
 have e : (0 : Int) + 0 + (0 + S) = S := by simp
 rw [e] at this
 exact this
end
open PySem PySem.W PySem.Calls PyProof.Rows
namespace F
theorem kind_fsum : builtinKind "math.fsum" = none := by decide +kernel
theorem plain_fsum : plainId "math.fsum" = true := by decide +kernel
theorem entry_fsum : entryFor table "math.fsum" = some Builtin.«math.fsum» := entryFor_of_fast (by kernel_rfl)
theorem args_fsum (a : Value) : argsOk "math.fsum" ⟨[a],[]⟩ := by unfold argsOk; kernel_rfl
theorem plain_fsum_loop : plainId "math.fsum.loop" = true := by decide +kernel
theorem entry_fsum_loop : entryFor table "math.fsum.loop" = some Builtin.«math.fsum.loop» := entryFor_of_fast (by kernel_rfl)
end F
noncomputable def bitsV (ps : List UInt64) : List Value := ps.map fun x => rawInt x.toNat
noncomputable def unbits (vs : List Value) : List UInt64 := vs.map fun | .int i _ => i.toNat.toUInt64 | _ => 0
theorem unbits_bits : ∀ ps : List UInt64,unbits (bitsV ps) = ps
 | [] => rfl
 | x :: r => by
  have := unbits_bits r
  unfold unbits bitsV at this ⊢
  rw [List.map_cons,List.map_cons,this]
  show ((x.toNat : Int).toNat).toUInt64 :: r = _
  rw [Int.toNat_natCast]
  congr 1
  exact UInt64.ofNat_toNat
noncomputable def PackAt (h : Heap) (T : Addr) (ps : List UInt64) : Prop := ∃ o n,h.get? T = some o ∧ o.data = .seq (bitsV ps).toArray n
theorem PackAt.keeps {h h' : Heap} {T : Addr} {ps : List UInt64} (x : PackAt h T ps) (hk : ∀ o,h.get? T = some o → h'.get? T = some o) : PackAt h' T ps := by
 obtain ⟨o,n,a,b⟩ := x
 exact ⟨o,n,hk _ a,b⟩
open PySem.Float64 in
theorem isI_notOver {n : Int} (h : n.natAbs < 2 ^ 53) : ¬ Flt.Over n := fun q => by
 unfold Flt.Over at q
 have e : (2 : Nat) ^ 970 + 2 ^ 53 ≤ 2 ^ 1024 := by decide +kernel
 omega
noncomputable def flK : { K : Addr → Addr → Addr → List UInt64 → Sem PySem.Fin // ∀ I T U,Builtin.«math.fsum.loop» ⟨[.ref I,.ref T,.ref U],[]⟩ = ((seqItems? (.ref T) >>= fun x => pure (unbits (x.getD #[]).toList)) >>= K I T U) } := ⟨_,fun _ _ _ => rfl⟩
noncomputable def flL : { L : Addr → Addr → Addr → List UInt64 → List UInt64 → Sem PySem.Fin // ∀ I T U ps,flK.1 I T U ps = ((seqItems? (.ref U) >>= fun x => pure (unbits (x.getD #[]).toList)) >>= L I T U ps) } := ⟨_,fun _ _ _ _ => rfl⟩
noncomputable def flM : { M : Addr → Addr → Addr → List UInt64 → UInt64 → UInt64 → Option Value → Sem PySem.Fin // ∀ I T U ps a b,flL.1 I T U ps [a,b] = (pyNext (.ref I) >>= M I T U ps a b) } := ⟨_,fun _ _ _ _ _ _ => rfl⟩
noncomputable def flN : { N : Addr → Addr → Addr → List UInt64 → UInt64 → UInt64 → Value → UInt64 → Sem PySem.Fin // ∀ I T U ps a b v,flM.1 I T U ps a b (some v) = (holding [v] (PySem.Builtin.Math.realArg v) >>= N I T U ps a b v) } := ⟨_,fun _ _ _ _ _ _ _ => rfl⟩
open PySem.Float64 in
theorem fl_item {I T U : Addr} {ps : List UInt64} {a b x top : UInt64} {v : Value} (e : fsumAdd ps x = ([],top)) (h : isFinite top = true) : flN.1 I T U ps a b v x = (newTuple (bitsV (if isZero top then [] else [] ++ [top])) >>= fun t => again (.builtin "math.fsum.loop" ⟨[.ref I,t,.ref U],[]⟩)) := by
 show (if isFinite (fsumAdd ps x).2 = true then newTuple (bitsV (if isZero (fsumAdd ps x).2 then (fsumAdd ps x).1 else (fsumAdd ps x).1 ++ [(fsumAdd ps x).2])) >>= _ else _) = _
 rw [e]
 exact if_pos h
open PySem.Float64 in
theorem fl_done {I T U : Addr} {ps : List UInt64} {a b : UInt64} (h : isZero a = true) : flM.1 I T U ps a b none = (mkFloat (fsumEnd ps) >>= fun v => ret v) := by
 show (if (!isZero a) = true then _ else mkFloat (fsumEnd ps) >>= _) = _
 rw [h]
 exact if_neg Bool.false_ne_true
section
variable {prog : Program} {w : World} {A : Around} {R : Result → Shared → Prop} {I : Addr} {fp wr : List Addr} {n : Nat} {P : Nat → Value → Prop} {St : Nat → Heap → Prop}
open PySem.Float64
theorem codeAny_fsum_loop (hh : A.handled = none) (W : Walks prog w A.in1 I fp wr n P St) (val : Nat → Int) (hval : ∀ i v,P i v → ∃ t,v = .int (val i) t) (hlive : ∀ i h,St i h → ∀ b ∈ fp,b < h.objs.size) (hfit : ∀ j,j ≤ n → (val j).natAbs < 2 ^ 50 ∧ (preSum val j).natAbs < 2 ^ 50) :
  ∀ (k i : Nat) (s : Shared) (T U : Addr) (ps : List UInt64),n - i = k → i ≤ n → St i s.heap → PackAt s.heap T ps → PackAt s.heap U [zero false,zero false] → T ∉ wr → U ∉ wr → PartsAre ps (preSum val i) →
  (∀ x h' tk t',(∀ b o,b ∉ wr → s.heap.get? b = some o → h'.get? b = some o) → IsI x (preSum val n) → R (.ok (.ret (.float x t'))) { s with heap := h',toks := tk }) →
  codeAny (model prog w) A (.builtin "math.fsum.loop" ⟨[.ref I,.ref T,.ref U],[]⟩) R s := by
 intro k
 induction k with
 | zero =>
  intro i s T U ps hk hi hst hT hU hTw hUw hp hR
  have hin : i = n := ar3 hk hi
  subst hin
  obtain ⟨oT,nT,hT1,hT2⟩ := hT
  obtain ⟨oU,nU,hU1,hU2⟩ := hU
  refine codeAny_builtin F.entry_fsum_loop ?_
  rw [Around.under_plainId F.plain_fsum_loop _,flK.2]
  refine wpAny_bind (wpAny_bind (wpAny_seqItems hT1 hT2 (wpAny_pure ?_)))
  rw [Option.getD_some,unbits_bits,flL.2]
  refine wpAny_bind (wpAny_bind (wpAny_seqItems hU1 hU2 (wpAny_pure ?_)))
  rw [Option.getD_some,unbits_bits,flM.2]
  refine wpAny_bind (W.done s _ _ hst fun h' tk hk' => ?_)
  rw [fl_done (by decide +kernel)]
  exact wpAny_bind (wpAny_mkFloat (wpAny_pure (hR _ h' _ _ (fun b o hb e => hk' b o hb e) (fsumEnd_isI hp))))
 | succ k ih =>
  intro i s T U ps hk hi hst hT hU hTw hUw hp hR
  have hlt' : i < n := ar4 hk
  obtain ⟨oT,nT,hT1,hT2⟩ := id hT
  obtain ⟨oU,nU,hU1,hU2⟩ := id hU
  refine codeAny_builtin F.entry_fsum_loop ?_
  rw [Around.under_plainId F.plain_fsum_loop _,flK.2]
  refine wpAny_bind (wpAny_bind (wpAny_seqItems hT1 hT2 (wpAny_pure ?_)))
  rw [Option.getD_some,unbits_bits,flL.2]
  refine wpAny_bind (wpAny_bind (wpAny_seqItems hU1 hU2 (wpAny_pure ?_)))
  rw [Option.getD_some,unbits_bits,flM.2]
  refine wpAny_bind (W.item i s _ _ hlt' hst fun v h' tk hP hst' hk' => ?_)
  obtain ⟨t,rfl⟩ := hval i v hP
  have hv := (hfit i hi).1
  have hs1 := (hfit i hi).2
  have hs2 := (hfit (i + 1) hlt').2
  rw [flN.2]
  refine wpAny_bind (wpAny_holding (Flt.realArg_int hh (fun q => absurd q (isI_notOver (ark hv))) fun _ => ?_))
  obtain ⟨top,e1,e2⟩ := fsumAdd_isI (a := val i) hp (isI_ofInt (ark hv)) hs1 hv
  rw [fl_item e1 (isI_finite e2)]
  refine wpAny_bind (wpAny_newTuple ?_ (by rw [sizeLine_eq]; split <;> simp [bitsV]))
  refine wpAny_pure ⟨plainId_quiet F.plain_fsum_loop _,?_⟩
  refine ih (i + 1) _ _ U _ (ar2 hk) hlt' (W.frame _ _ _ hst' fun b hb o e => Heap.get?_push_of_some _ e) ⟨_,_,Heap.get?_push_size _ rfl,rfl⟩ (hU.keeps fun o e => Heap.get?_push_of_some _ (hk' _ _ hUw e)) (fun q => ?_) hUw (partsAre_next e2) fun x h'' tk'' t'' hk'' hx => ?_
  ·exact Nat.lt_irrefl _ (hlive _ _ hst' _ (W.sub _ q))
  ·exact hR x h'' tk'' t'' (fun b o hb e => hk'' b o hb (Heap.get?_push_of_some _ (hk' b o hb e))) hx
theorem preSum_list (ns : List Int) : ∀ j,preSum (fun i => ns.getD i 0) j = (ns.take j).sum
 | 0 => rfl
 | j + 1 => by
  show preSum _ j + ns.getD j 0 = _
  rw [preSum_list ns j]
  by_cases h : j < ns.length
  ·rw [List.take_succ_eq_append_getElem h,List.sum_append,List.getD_eq_getElem?_getD,List.getElem?_eq_getElem h]
   simp
  ·rw [List.take_of_length_le (by exact Nat.le_of_not_lt ‹_› : ns.length ≤ j),List.take_of_length_le (by lia : ns.length ≤ j + 1),List.getD_eq_getElem?_getD,List.getElem?_eq_none (by exact Nat.le_of_not_lt ‹_›)]
   simp
theorem ints_get {vs : List Value} {ns : List Int} (H : IntsAre vs ns) {i : Nat} {v : Value} (h : vs[i]? = some v) : ∃ t,v = .int (ns.getD i 0) t := by
 induction H generalizing i with
 | nil => cases h
 | cons _ t r ih =>
  cases i with
  | zero => exact ⟨t,(Option.some.inj h).symm⟩
  | succ i => exact ih h
open PySem.Float64 in
theorem fsum_list {E : Value → Shared → Prop} {s : Shared} {l : Addr} {vs : List Value} {ns : List Int} {Q : Value → Shared → Prop} (hh : A.handled = none) (hl : s.heap.IsList l vs.toArray) (hi : IntsAre vs ns)
  (hfit : ∀ j,(ns.getD j 0).natAbs < 2 ^ 50 ∧ (ns.take j).sum.natAbs < 2 ^ 50)
  (hQ : ∀ x h' tk t',s.heap.StaysIn h' → IsI x ns.sum → Q (.float x t') { s with heap := h',toks := tk }) :
  wpAny (model prog w) A (call (.builtin "math.fsum") [.ref l]) Q E s := by
 have hh1 : A.in1.handled = none := hh
 refine call_function_tree F.kind_fsum F.plain_fsum F.entry_fsum (F.args_fsum _) ?_
 show wpAny _ A.in1 (pyIter (.ref l) >>= _) _ _ s
 have hne : l ≠ s.heap.objs.size := fun e => by
  obtain ⟨o,ho,_⟩ := hl
  rw [e] at ho
  exact absurd (Heap.lt_size ho) (Nat.lt_irrefl _)
 refine wpAny_bind (wpAny_pyIter_list hl ?_)
 show wpAny _ A.in1 (newTuple (bitsV []) >>= _) _ _ _
 refine wpAny_bind (wpAny_newTuple ?_)
 show wpAny _ A.in1 (newTuple (bitsV [zero false,zero false]) >>= _) _ _ _
 refine wpAny_bind (wpAny_newTuple ?_)
 refine wpAny_pure ⟨plainId_quiet F.plain_fsum_loop _,?_⟩
 have W := Walks.list (prog := prog) (w := w) (A := A.in1) hh1 s.heap.objs.size l hne vs.toArray
 have hlen : vs.toArray.size = ns.length := by simp [hi.length]
 rw [hlen] at W
 refine codeAny_fsum_loop hh W (fun i => ns.getD i 0) (fun i v hv => ints_get hi (by simpa using hv)) ?_ (fun j _ => by rw [preSum_list]; exact hfit j) ns.length 0 _ _ _ [] (Nat.sub_zero _) (Nat.zero_le _) ?_ ⟨_,_,Heap.get?_push_of_some _ (Heap.get?_push_size _ rfl),rfl⟩ ⟨_,_,Heap.get?_push_size _ rfl,rfl⟩ ?_ ?_ (.inl ⟨rfl,rfl⟩) fun x h' tk t' hk hx => ?_
 ·rintro i h ⟨⟨o,ho,_⟩,o',ho',_⟩ b hb
  rcases List.mem_cons.mp hb with rfl | hb
  ·exact Heap.lt_size ho
  ·rw [List.mem_singleton.mp hb]; exact Heap.lt_size ho'
 ·exact ⟨⟨_,Heap.get?_push_of_some _ (Heap.get?_push_of_some _ (Heap.get?_push_size _ rfl)),rfl,rfl⟩,((hl.push _).push _).push _⟩
 ·rw [List.mem_singleton,Heap.size_push]; exact Nat.succ_ne_self _
 ·rw [List.mem_singleton,Heap.size_push,Heap.size_push]; intro q; have : s.heap.objs.size + 1 + 1 = s.heap.objs.size := q; lia
 ·refine hQ x h' tk t' (fun b o e => hk b o (fun q => ?_) (Heap.get?_push_of_some _ (Heap.get?_push_of_some _ (Heap.get?_push_of_some _ e)))) ?_
  ·rw [List.mem_singleton.mp q] at e
   exact absurd (Heap.lt_size e) (Nat.lt_irrefl _)
  ·rw [preSum_list,List.take_of_length_le (Nat.le_refl _)] at hx
   exact hx
end
namespace F
theorem kind_sumprod : builtinKind "math.sumprod" = none := by decide +kernel
theorem plain_sumprod : plainId "math.sumprod" = true := by decide +kernel
theorem entry_sumprod : entryFor table "math.sumprod" = some Builtin.«math.sumprod» := entryFor_of_fast (by kernel_rfl)
theorem args_sumprod (a b : Value) : argsOk "math.sumprod" ⟨[a,b],[]⟩ := by unfold argsOk; kernel_rfl
theorem plain_sumprod_loop : plainId "math.sumprod.loop" = true := by decide +kernel
theorem entry_sumprod_loop : entryFor table "math.sumprod.loop" = some Builtin.«math.sumprod.loop» := entryFor_of_fast (by kernel_rfl)
end F
noncomputable def threeV (t : UInt64 × UInt64 × UInt64) : List Value := [rawInt t.1.toNat,rawInt t.2.1.toNat,rawInt t.2.2.toNat]
noncomputable def ThreeAt (h : Heap) (T : Addr) (t : UInt64 × UInt64 × UInt64) : Prop := ∃ o n,h.get? T = some o ∧ o.data = .seq (threeV t).toArray n
theorem toNat_back (x : UInt64) : ((x.toNat : Int).toNat).toUInt64 = x := by
 rw [Int.toNat_natCast]; exact UInt64.ofNat_toNat
noncomputable def prodSum (a b : Nat → Int) : Nat → Int
 | 0 => 0
 | j + 1 => prodSum a b j + a j * b j
noncomputable def spK : { K : Addr → Addr → Addr → Tok → Bool → Bool → Option (Array Value) → Sem PySem.Fin // ∀ I J T tz io fu,Builtin.«math.sumprod.loop» ⟨[.ref I,.ref J,.int 0 tz,.bool io,rawInt 0,.bool false,.bool true,.ref T,.bool fu],[]⟩ = (seqItems? (.ref T) >>= K I J T tz io fu) } := ⟨_,fun _ _ _ _ _ _ => rfl⟩
noncomputable def spL : { L : Addr → Addr → Addr → Tok → Bool → Bool → UInt64 × UInt64 × UInt64 → Option Value → Option Value → Sem PySem.Fin // ∀ I J T tz io fu t,spK.1 I J T tz io fu (some (threeV t).toArray) = (pyNext (.ref I) >>= fun p => holding p.toList (pyNext (.ref J)) >>= fun q => L I J T tz io fu t p q) } := ⟨_,fun _ _ _ _ _ _ _ => rfl⟩
theorem three_back (t : UInt64 × UInt64 × UInt64) : (((t.1.toNat : Int).toNat.toUInt64,(t.2.1.toNat : Int).toNat.toUInt64,(t.2.2.toNat : Int).toNat.toUInt64) : UInt64 × UInt64 × UInt64) = t := by
 rw [toNat_back,toNat_back,toNat_back]
open PySem.Float64 PySem.Builtin.Math in
theorem spL_item {I J T : Addr} {tz tx ty : Tok} {fu : Bool} {t : UInt64 × UInt64 × UInt64} {x y : UInt64} (h : isFinite (tlFma x y t).1 = true) : spL.1 I J T tz false fu t (some (.float x tx)) (some (.float y ty)) =
  (newTuple (threeV (tlFma x y t)) >>= fun a => again (.builtin "math.sumprod.loop" ⟨[.ref I,.ref J,.int 0 tz,.bool false,rawInt 0,.bool false,.bool true,a,.bool true],[]⟩)) := by
 show (if isFinite (tlFma x y ((t.1.toNat : Int).toNat.toUInt64,(t.2.1.toNat : Int).toNat.toUInt64,(t.2.2.toNat : Int).toNat.toUInt64)).1 = true then newTuple (threeV (tlFma x y ((t.1.toNat : Int).toNat.toUInt64,(t.2.1.toNat : Int).toNat.toUInt64,(t.2.2.toNat : Int).toNat.toUInt64))) >>= _ else _) = _
 rw [three_back]
 exact if_pos h
theorem spL_open {I J T : Addr} {tz tx ty : Tok} {fu : Bool} {t : UInt64 × UInt64 × UInt64} {x y : UInt64} : spL.1 I J T tz true fu t (some (.float x tx)) (some (.float y ty)) =
  (rule "math.sumprod.leaves-ints" >>= fun _ => spL.1 I J T tz false fu t (some (.float x tx)) (some (.float y ty))) := rfl
open PySem.Float64 PySem.Builtin.Math in
theorem spL_done {I J T : Addr} {tz : Tok} {t : UInt64 × UInt64 × UInt64} : spL.1 I J T tz false true t none none =
  (rule "math.sumprod.leaves-floats" >>= fun _ => mkFloat (tlToFloat ((t.1.toNat : Int).toNat.toUInt64,(t.2.1.toNat : Int).toNat.toUInt64,(t.2.2.toNat : Int).toNat.toUInt64)) >>= fun f => holding [.int 0 tz] (binaryOp .Add (.int 0 tz) f) >>= fun v => ret v) := rfl
section
variable {prog : Program} {w : World} {A : Around} {R : Result → Shared → Prop} {I J : Addr} {fp wr fq wq : List Addr} {G H GH : Array GenState → Array GenState → Prop} {n : Nat} {P Q : Nat → Value → Prop} {St Su : Nat → Shared → Prop}
open PySem.Float64 PySem.Builtin.Math
theorem codeAny_sumprod_loop (hh : A.handled = none) (W : WalksS prog w A.in1 I fp wr G n P St) (U : WalksS prog w A.in1 J fq wq H n Q Su)
  (X1 : ∀ i s s',Su i s → Moved wr G s s' → Su i s') (X2 : ∀ i s s',St i s → Moved wq H s s' → St i s') (hG : ∀ a b,G a b → GH a b) (hH : ∀ a b,H a b → GH a b) (hr : ∀ a,GH a a) (ht : ∀ a b c,GH a b → GH b c → GH a c)
  (va vb : Nat → Int) (hva : ∀ i v,P i v → ∃ x t,v = .float x t ∧ IsI x (va i)) (hvb : ∀ i v,Q i v → ∃ x t,v = .float x t ∧ IsI x (vb i)) (hfit : ∀ j,j ≤ n → (va j * vb j).natAbs < 2 ^ 50 ∧ (prodSum va vb j).natAbs < 2 ^ 50) (hn : 0 < n) :
  ∀ (k i : Nat) (s : Shared) (T : Addr) (io : Bool) (tz : Tok) (three : UInt64 × UInt64 × UInt64),n - i = k → i ≤ n → io = decide (i = 0) → St i s → Su i s → ThreeAt s.heap T three → (∀ b ∈ wr,b < T) → (∀ b ∈ wq,b < T) → ThreeAre three (prodSum va vb i) →
  (∀ x s' t',Moved (wr ++ wq) GH s s' → IsI x (prodSum va vb n) → R (.ok (.ret (.float x t'))) s') →
  codeAny (model prog w) A (.builtin "math.sumprod.loop" ⟨[.ref I,.ref J,.int 0 tz,.bool io,rawInt 0,.bool false,.bool true,.ref T,.bool (!io)],[]⟩) R s := by
 intro k
 induction k with
 | zero =>
  intro i s T io tz three hk hi hio hst hsu hT hTw hTq hp hR
  have hin : i = n := ar3 hk hi
  subst hin
  have hio' : io = false := by rw [hio]; exact decide_eq_false (Nat.ne_of_gt hn)
  subst hio'
  obtain ⟨oT,nT,hT1,hT2⟩ := hT
  refine codeAny_builtin F.entry_sumprod_loop ?_
  rw [Around.under_plainId F.plain_sumprod_loop _,spK.2]
  refine wpAny_bind (wpAny_seqItems hT1 hT2 ?_)
  rw [spL.2]
  refine wpAny_bind (W.done s _ _ hst fun s1 m1 => ?_)
  refine wpAny_bind (wpAny_holding (U.done s1 _ _ (X1 _ _ _ hsu m1) fun s2 m2 => ?_))
  rw [show (!false) = true from rfl,spL_done,three_back]
  refine wpAny_bind (wpAny_rule (wpAny_bind (wpAny_mkFloat (wpAny_bind (wpAny_holding (add_if_sharp hh (fun hb => absurd hb (by decide +kernel)) fun _ => wpAny_pure (hR _ _ _ ?_ ?_)))))))
  ·have m1' := m1.mono (wr' := wr ++ wq) fun b hb => mL _ hb
   have m2' := m2.mono (wr' := wr ++ wq) fun b hb => mR _ hb
   exact ⟨fun b o hb e => m2'.heap b o hb (m1'.heap b o hb e),ht _ _ _ (hG _ _ m1.gens) (hH _ _ m2.gens),m2.drawn.trans m1.drawn,m2.os.trans m1.os,Nat.le_succ_of_le (Nat.le_succ_of_le (Nat.le_trans m1.toks m2.toks))⟩
  ·have hs := (hfit i hi).2
   have := isI_add (isI_ofInt (n := 0) (by decide)) (tlToFloat_isI hp hs) (arl hs)
   rw [Int.zero_add] at this
   exact this
 | succ k ih =>
  intro i s T io tz three hk hi hio hst hsu hT hTw hTq hp hR
  have hlt' : i < n := ar4 hk
  obtain ⟨oT,nT,hT1,hT2⟩ := id hT
  refine codeAny_builtin F.entry_sumprod_loop ?_
  rw [Around.under_plainId F.plain_sumprod_loop _,spK.2]
  refine wpAny_bind (wpAny_seqItems hT1 hT2 ?_)
  rw [spL.2]
  refine wpAny_bind (W.item i s _ _ hlt' hst fun v s1 hP hst1 m1 => ?_)
  refine wpAny_bind (wpAny_holding (U.item i s1 _ _ hlt' (X1 _ _ _ hsu m1) fun v' s2 hQ hsu2 m2 => ?_))
  obtain ⟨x,tx,rfl,hx⟩ := hva i v hP
  obtain ⟨y,ty,rfl,hy⟩ := hvb i v' hQ
  have hp2 := tlFma_isI hx hy hp (hfit i hi).1 (hfit i hi).2
  have go : wpAny (model prog w) A.in1 (spL.1 I J T tz false (!io) three (some (.float x tx)) (some (.float y ty)))
    (fun fin s' => match fin with | .done f => R (.ok f) s' | .again c' => c'.quiet = true ∧ codeAny (model prog w) A c' R s') (fun e s' => R (.error e) s') s2 := by
   rw [spL_item (isI_finite hp2.1)]
   have m1' := m1.mono (wr' := wr ++ wq) fun b hb => mL _ hb
   have m2' := m2.mono (wr' := wr ++ wq) fun b hb => mR _ hb
   refine wpAny_bind (wpAny_newTuple ?_ (by rw [sizeLine_eq]; simp [threeV]))
   refine wpAny_pure ⟨plainId_quiet F.plain_sumprod_loop _,?_⟩
   have hst2 := X2 _ _ _ hst1 m2
   have hT' : T < s2.heap.objs.size := Heap.lt_size (m2.heap T oT (fun q => Nat.lt_irrefl _ (hTq T q)) (m1.heap T oT (fun q => Nat.lt_irrefl _ (hTw T q)) hT1))
   refine ih (i + 1) _ _ false tz (tlFma x y three) (ar2 hk) hlt' rfl (W.frame _ _ _ _ hst2 (Nat.le_refl _) fun b hb o e => Heap.get?_push_of_some _ e) (U.frame _ _ _ _ hsu2 (Nat.le_refl _) fun b hb o e => Heap.get?_push_of_some _ e) ⟨_,_,Heap.get?_push_size _ rfl,rfl⟩ (fun b q => Nat.lt_trans (hTw b q) hT') (fun b q => Nat.lt_trans (hTq b q) hT') hp2 fun z s' t' hm hz => ?_
   refine hR z s' t' ?_ hz
   exact ⟨fun b o hb e => hm.heap b o hb (Heap.get?_push_of_some _ (m2'.heap b o hb (m1'.heap b o hb e))),ht _ _ _ (ht _ _ _ (hG _ _ m1.gens) (hH _ _ m2.gens)) hm.gens,hm.drawn.trans (m2.drawn.trans m1.drawn),hm.os.trans (m2.os.trans m1.os),Nat.le_trans m1.toks (Nat.le_trans m2.toks hm.toks)⟩
  cases io with
  | true =>
   rw [spL_open]
   exact wpAny_bind (wpAny_rule go)
  | false => exact go
end
inductive AV where
 | none | bool (b : Bool) | int (i : Int) | str (x : Str) | flt (i : Int) | ref (n : Nat) | nxt (n : Nat) | fl (xs : List AV) | tp (xs : List AV) | rng (a b : Int)
inductive AO where
 | list (xs : List AV) | dict (kvs : List (Int × AV)) | set (ks : List Int) | inst (a b c d : AV) | info (node np : Int) (succ : Nat) | iter (l : Nat) (pos : Nat) | dead | tbl
structure St where
 env : List (Option AV)
 heap : List (AO × Nat)
noncomputable abbrev Led := List (Addr × Obj)
noncomputable def tupO (vs : List Value) : Obj := { cls := .type "tuple",data := .seq vs.toArray }
structure Kno where
 kn : Addr → Prop
 h0 : Heap
 fz : Led
noncomputable def IsMw (h : Heap) (q it : Addr) : Prop := ∃ o,h.get? q = some o ∧ o.cls = .type "method-wrapper" ∧ o.data = .fields #[.builtin "list_iterator.__next__",.ref it]
noncomputable def IsLd (h : Heap) (a : Addr) (vs : List Value) : Prop := ∃ o,h.get? a = some o ∧ o.cls = .type "list" ∧ (∃ n,o.data = .seq vs.toArray n) ∧ o.dict = none
theorem IsLd.at {h h' : Heap} {a : Addr} {vs : List Value} (x : IsLd h a vs) (k : ∀ o,h.get? a = some o → h'.get? a = some o) : IsLd h' a vs := let ⟨o,ho,r⟩ := x; ⟨o,k o ho,r⟩
theorem IsLd.list {h : Heap} {a : Addr} {vs : List Value} (x : IsLd h a vs) : h.IsList a vs.toArray := let ⟨o,ho,c,d,_⟩ := x; ⟨o,ho,c,d⟩
noncomputable def KL (K : Kno) (a : Addr) (vs : List Value) : Prop := (K.kn a ∧ IsLd K.h0 a vs) ∨ ∃ n,(a,W.listOf vs.toArray n) ∈ K.fz
noncomputable def KT (K : Kno) (a : Addr) (vs : List Value) : Prop := (K.kn a ∧ K.h0.IsTuple a vs.toArray) ∨ ∃ n,(a,({ cls := .type "tuple",data := .seq vs.toArray n } : Obj)) ∈ K.fz
noncomputable def KM (K : Kno) (q it : Addr) : Prop := (K.kn q ∧ IsMw K.h0 q it) ∨ (q,mwO it) ∈ K.fz
inductive RV (K : Kno) (γ : List Addr) : Value → AV → Prop
 | none : RV K γ .none .none
 | bool (b : Bool) : RV K γ (.bool b) (.bool b)
 | int (i : Int) (t : Tok) : RV K γ (.int i t) (.int i)
 | str (x : Str) (t : Tok) : RV K γ (.str x t) (.str x)
 | flt (x : UInt64) (t : Tok) (i : Int) : IsI x i → RV K γ (.float x t) (.flt i)
 | ref (a : Addr) (n : Nat) : γ[n]? = some a → RV K γ (.ref a) (.ref n)
 | nxt (q it : Addr) (n : Nat) : γ[n]? = some it → KM K q it → RV K γ (.ref q) (.nxt n)
 | fl (a : Addr) (vs : List Value) (xs : List AV) : KL K a vs → vs.length = xs.length → (∀ (i : Nat) (v : Value) (x : AV),vs[i]? = some v → xs[i]? = some x → RV K γ v x) → RV K γ (.ref a) (.fl xs)
 | tp (a : Addr) (vs : List Value) (xs : List AV) : KT K a vs → vs.length = xs.length → (∀ (i : Nat) (v : Value) (x : AV),vs[i]? = some v → xs[i]? = some x → RV K γ v x) → RV K γ (.ref a) (.tp xs)
noncomputable def RVs (K : Kno) (γ : List Addr) (vs : List Value) (xs : List AV) : Prop := vs.length = xs.length ∧ ∀ (i : Nat) (v : Value) (x : AV),vs[i]? = some v → xs[i]? = some x → RV K γ v x
noncomputable def TabOk (ps : Array Value) : Prop := TriplesOk ps.toList
noncomputable def tblO (ps : Array Value) : Obj := { cls := .none,data := .fields ps }
inductive RO (prog : Program) (w : World) (K : Kno) (γ : List Addr) : Addr → AO → Led → Prop
 | list (a : Addr) (vs : List Value) (xs : List AV) (n : Nat) : RVs K γ vs xs → RO prog w K γ a (.list xs) [(a,W.listOf vs.toArray n)]
 | dict (a : Addr) (o : Obj) (kvs : List (Int × Value)) (xs : List (Int × AV)) : o.IsDictOf (PySem.intKind prog w) kvs → (a == sysModules) = false → kvs.map (·.1) = xs.map (·.1) → RVs K γ (kvs.map (·.2)) (xs.map (·.2)) → RO prog w K γ a (.dict xs) [(a,o)]
 | set (a : Addr) (o : Obj) (S : Int → Bool) (n : Nat) (ks : List Int) : o.SetObjOf (PySem.intKind prog w) S n → n ≤ ks.length → (∀ k,S k = ks.any (· == k)) → RO prog w K γ a (.set ks) [(a,o)]
 | inst (a dx : Addr) (ta tb tc td : Tok) (va vb vc vd : Value) (xa xb xc xd : AV) : RV K γ va xa → RV K γ vb xb → RV K γ vc xc → RV K γ vd xd →
   RO prog w K γ a (.inst xa xb xc xd) [(a,instObj 185 dx),(dx,dictOf (flds w.params ta tb tc td va vb vc vd) 4)]
 | info (a dx sx : Addr) (np : Int) (t : Tok) (k : Int) (u : Tok) (n : Nat) : γ[n]? = some sx → RO prog w K γ a (.info k np n) [(a,infO dx sx np t k u),(dx,dictOf [] 0)]
 | iter (a la : Addr) (l pos : Nat) : γ[l]? = some la → RO prog w K γ a (.iter l pos) [(a,itO la pos)]
 | dead (a : Addr) (o : Obj) : RO prog w K γ a .dead [(a,o)]
 | tbl (a : Addr) (ps : Array Value) : a = 64 → TabOk ps → RO prog w K γ a .tbl [(a,tblO ps)]
section
variable {K : Kno} {γ : List Addr} {v : Value} {prog : Program} {w : World} {a : Addr} {es : Led}
noncomputable def RVInv (K : Kno) (γ : List Addr) (v : Value) (x : AV) : Prop := match x with
  | .none => v = .none
  | .bool b => v = .bool b
  | .int i => ∃ t,v = .int i t
  | .str x => ∃ t,v = .str x t
  | .flt i => ∃ x t,v = .float x t ∧ IsI x i
  | .ref n => ∃ a,v = .ref a ∧ γ[n]? = some a
  | .nxt n => ∃ q it,v = .ref q ∧ γ[n]? = some it ∧ KM K q it
  | .fl xs => ∃ a vs,v = .ref a ∧ KL K a vs ∧ RVs K γ vs xs
  | .tp xs => ∃ a vs,v = .ref a ∧ KT K a vs ∧ RVs K γ vs xs
  | .rng _ _ => False
theorem RV.inv {x : AV} (h : RV K γ v x) : RVInv K γ v x := by
 cases h with
 | none => rfl
 | bool => rfl
 | int i t => exact ⟨t,rfl⟩
 | str x t => exact ⟨t,rfl⟩
 | flt x t i h => exact ⟨x,t,rfl,h⟩
 | ref a n h => exact ⟨a,rfl,h⟩
 | nxt q it n h1 h2 => exact ⟨q,it,rfl,h1,h2⟩
 | fl a vs xs h1 h2 h3 => exact ⟨a,vs,rfl,h1,h2,h3⟩
 | tp a vs xs h1 h2 h3 => exact ⟨a,vs,rfl,h1,h2,h3⟩
theorem RV.none_inv (h : RV K γ v .none) : v = .none := h.inv
theorem RV.bool_inv {b : Bool} (h : RV K γ v (.bool b)) : v = .bool b := h.inv
theorem RV.int_inv {i : Int} (h : RV K γ v (.int i)) : ∃ t,v = .int i t := h.inv
theorem RV.str_inv {x : Str} (h : RV K γ v (.str x)) : ∃ t,v = .str x t := h.inv
theorem RV.flt_inv {i : Int} (h : RV K γ v (.flt i)) : ∃ x t,v = .float x t ∧ IsI x i := h.inv
theorem RV.ref_inv {n : Nat} (h : RV K γ v (.ref n)) : ∃ a,v = .ref a ∧ γ[n]? = some a := h.inv
theorem RV.nxt_inv {n : Nat} (h : RV K γ v (.nxt n)) : ∃ q it,v = .ref q ∧ γ[n]? = some it ∧ KM K q it := h.inv
theorem RV.fl_inv {xs : List AV} (h : RV K γ v (.fl xs)) : ∃ a vs,v = .ref a ∧ KL K a vs ∧ RVs K γ vs xs := h.inv
theorem RV.tp_inv {xs : List AV} (h : RV K γ v (.tp xs)) : ∃ a vs,v = .ref a ∧ KT K a vs ∧ RVs K γ vs xs := h.inv
noncomputable def ROInv (prog : Program) (w : World) (K : Kno) (γ : List Addr) (a : Addr) (ao : AO) (es : Led) : Prop := match ao with
  | .list xs => ∃ vs n,es = [(a,W.listOf vs.toArray n)] ∧ RVs K γ vs xs
  | .dict xs => ∃ o kvs,es = [(a,o)] ∧ o.IsDictOf (PySem.intKind prog w) kvs ∧ (a == sysModules) = false ∧ kvs.map (·.1) = xs.map (·.1) ∧ RVs K γ (kvs.map (·.2)) (xs.map (·.2))
  | .set ks => ∃ o S n,es = [(a,o)] ∧ o.SetObjOf (PySem.intKind prog w) S n ∧ n ≤ ks.length ∧ ∀ k,S k = ks.any (· == k)
  | .inst xa xb xc xd => ∃ dx ta tb tc td va vb vc vd,es = [(a,instObj 185 dx),(dx,dictOf (flds w.params ta tb tc td va vb vc vd) 4)] ∧ RV K γ va xa ∧ RV K γ vb xb ∧ RV K γ vc xc ∧ RV K γ vd xd
  | .info k np n => ∃ dx sx t u,es = [(a,infO dx sx np t k u),(dx,dictOf [] 0)] ∧ γ[n]? = some sx
  | .iter l pos => ∃ la,es = [(a,itO la pos)] ∧ γ[l]? = some la
  | .dead => True
  | .tbl => ∃ ps,a = 64 ∧ es = [(a,tblO ps)] ∧ TabOk ps
theorem RO.inv {ao : AO} (h : RO prog w K γ a ao es) : ROInv prog w K γ a ao es := by
 cases h with
 | list vs xs n h => exact ⟨vs,n,rfl,h⟩
 | dict o kvs xs h1 h2 h3 h4 => exact ⟨o,kvs,rfl,h1,h2,h3,h4⟩
 | set o S n ks h1 h2 h3 => exact ⟨o,S,n,rfl,h1,h2,h3⟩
 | inst dx ta tb tc td va vb vc vd xa xb xc xd h1 h2 h3 h4 => exact ⟨dx,ta,tb,tc,td,va,vb,vc,vd,rfl,h1,h2,h3,h4⟩
 | info dx sx np t k u n h => exact ⟨dx,sx,t,u,rfl,h⟩
 | iter la l pos h => exact ⟨la,rfl,h⟩
 | dead o => trivial
 | tbl ps h1 h2 => exact ⟨ps,h1,rfl,h2⟩
theorem RO.list_inv {xs : List AV} (h : RO prog w K γ a (.list xs) es) : ∃ vs n,es = [(a,W.listOf vs.toArray n)] ∧ RVs K γ vs xs := h.inv
theorem RO.dict_inv {xs : List (Int × AV)} (h : RO prog w K γ a (.dict xs) es) : ∃ o kvs,es = [(a,o)] ∧ o.IsDictOf (PySem.intKind prog w) kvs ∧ (a == sysModules) = false ∧ kvs.map (·.1) = xs.map (·.1) ∧ RVs K γ (kvs.map (·.2)) (xs.map (·.2)) := h.inv
theorem RO.set_inv {ks : List Int} (h : RO prog w K γ a (.set ks) es) : ∃ o S n,es = [(a,o)] ∧ o.SetObjOf (PySem.intKind prog w) S n ∧ n ≤ ks.length ∧ ∀ k,S k = ks.any (· == k) := h.inv
theorem RO.iter_inv {l pos : Nat} (h : RO prog w K γ a (.iter l pos) es) : ∃ la,es = [(a,itO la pos)] ∧ γ[l]? = some la := h.inv
theorem RO.tbl_inv (h : RO prog w K γ a .tbl es) : ∃ ps,a = 64 ∧ es = [(a,tblO ps)] ∧ TabOk ps := h.inv
theorem RO.inst_inv {xa xb xc xd : AV} (h : RO prog w K γ a (.inst xa xb xc xd) es) : ∃ dx ta tb tc td va vb vc vd,es = [(a,instObj 185 dx),(dx,dictOf (flds w.params ta tb tc td va vb vc vd) 4)] ∧ RV K γ va xa ∧ RV K γ vb xb ∧ RV K γ vc xc ∧ RV K γ vd xd := h.inv
theorem RO.info_inv {k np : Int} {n : Nat} (h : RO prog w K γ a (.info k np n) es) : ∃ dx sx t u,es = [(a,infO dx sx np t k u),(dx,dictOf [] 0)] ∧ γ[n]? = some sx := h.inv
end
structure Rt where
 K : Kno
 m : Str → Option Value
 cs : Led
 os : List (Addr × Led)
 it : Led
noncomputable def Rt.γ (r : Rt) : List Addr := r.os.map (·.1)
noncomputable def Rt.fl (r : Rt) : Led := r.os.flatMap (·.2)
noncomputable def ownOf : Nat → List (Str × NameKind) → List (Str × Addr)
 | _,[] => []
 | n,(x,k) :: r => if k == .cell then (x,n) :: ownOf (n + 1) r else ownOf n r
noncomputable def ownN (names : List (Str × NameKind)) : List Str := (names.filter fun x => x.2 == .cell).map (·.1)
theorem ownOf_fst : ∀ (names : List (Str × NameKind)) (n : Nat),(ownOf n names).map (·.1) = ownN names
 | [],_ => rfl
 | (x,k) :: r,n => by
  unfold ownOf ownN
  rw [List.filter_cons]
  split
  ·rename_i h
   rw [List.map_cons,ownOf_fst r]
   rfl
  ·exact ownOf_fst r n
theorem ownOf_mem : ∀ {names : List (Str × NameKind)} {n : Nat} {q : Str × Addr},q ∈ ownOf n names → @LE.le Nat _ n q.2 ∧ (q.1,NameKind.cell) ∈ names
 | (x,k) :: r,n,q,h => by
  unfold ownOf at h
  split at h
  ·rename_i hk
   rcases List.mem_cons.mp h with rfl | h
   ·refine ⟨Nat.le_refl _,?_⟩
    have : k = .cell := by simpa using hk
    subst this
    exact .head _
   ·obtain ⟨a,b⟩ := ownOf_mem h
    exact ⟨Nat.le_of_succ_le a,.tail _ b⟩
  ·obtain ⟨a,b⟩ := ownOf_mem h
   exact ⟨a,.tail _ b⟩
theorem cellsFrom_lookup {x : Str} : ∀ {names : List (Str × NameKind)} {n : Nat} {acc : List (Str × Addr)},(∀ y ∈ names,y.1 = x → y.2 ≠ .cell) → (cellsFrom n names acc).lookup x = acc.lookup x
 | [],_,_,_ => rfl
 | (y,k) :: r,n,acc,h => by
  unfold cellsFrom
  have hr : ∀ z ∈ r,z.1 = x → z.2 ≠ .cell := fun z hz => h z (.tail _ hz)
  split
  ·rename_i hk
   rw [cellsFrom_lookup hr,List.lookup_cons]
   have : (x == y) = false := by
    rw [beq_eq_false_iff_ne]
    intro e
    exact h (y,k) (.head _) e.symm (by simpa using hk)
   rw [this]
  ·exact cellsFrom_lookup hr
theorem ownOf_cells : ∀ {names : List (Str × NameKind)} {n : Nat} {acc : List (Str × Addr)} {q : Str × Addr},(names.map (·.1)).Nodup → q ∈ ownOf n names → (cellsFrom n names acc).lookup q.1 = some q.2
 | (x,k) :: r,n,acc,q,nd,h => by
  rw [List.map_cons,List.nodup_cons] at nd
  unfold ownOf at h
  unfold cellsFrom
  split at h
  ·rename_i hk
   rw [if_pos hk]
   rcases List.mem_cons.mp h with rfl | h
   ·rw [cellsFrom_lookup fun y hy e => absurd (by have := List.mem_map_of_mem (f := fun q : Str × NameKind => q.1) hy; rw [e] at this; exact this) nd.1,List.lookup_cons]
    simp
   ·exact ownOf_cells nd.2 h
  ·rename_i hk
   rw [if_neg hk]
   exact ownOf_cells nd.2 h
theorem cellsFrom_low {x : Str} {c : Addr} : ∀ {names : List (Str × NameKind)} {n : Nat} {acc : List (Str × Addr)},(cellsFrom n names acc).lookup x = some c → @LE.le Nat _ n c ∨ acc.lookup x = some c
 | [],_,_,h => .inr h
 | (y,k) :: r,n,acc,h => by
  unfold cellsFrom at h
  split at h
  ·rcases cellsFrom_low h with h | h
   ·exact .inl (Nat.le_of_succ_le h)
   ·rw [List.lookup_cons] at h
    split at h
    ·cases h; exact .inl (Nat.le_refl _)
    ·exact .inr h
  ·exact cellsFrom_low h
theorem ownOf_inj {x y : Str} {c : Addr} : ∀ {names : List (Str × NameKind)} {n : Nat} {acc : List (Str × Addr)},(cellsFrom n names acc).lookup x = some c → (y,c) ∈ ownOf n names → (∀ d,acc.lookup x = some d → @LT.lt Nat _ d n) → x = y
 | (z,k) :: r,n,acc,h,hm,ha => by
  unfold cellsFrom at h
  unfold ownOf at hm
  split at h
  ·rename_i hk
   rw [if_pos hk] at hm
   rcases List.mem_cons.mp hm with e | hm
   ·cases e
    rcases cellsFrom_low h with h | h
    ·exact absurd h (Nat.not_succ_le_self _)
    ·rw [List.lookup_cons] at h
     split at h
     ·rename_i q; exact eq_of_beq q
     ·exact absurd (ha _ h) (Nat.lt_irrefl _)
   ·refine ownOf_inj h hm fun d hd => ?_
    rw [List.lookup_cons] at hd
    split at hd
    ·cases hd; exact Nat.lt_succ_self _
    ·exact Nat.lt_succ_of_lt (ha d hd)
  ·rename_i hk
   rw [if_neg hk] at hm
   exact ownOf_inj h hm ha
set_option genInjectivity false in
set_option genSizeOf false in
structure Cx where
 w : World
 A : Around
 env : Env
 L : Addr
 base : Heap
 stk : List Env
 k : Nat
 lim : Nat
 tm : Bool
 hand : Bool
 fn : Bool
 G : Heap → Prop
 Tn : Heap → Heap → Prop
 S : Shared → Shared → Prop
 p : Program
 loose : List Str
 mg : Str → Option Value
 mb : Str → Option Value
 own : List (Str × Addr)
 ndn : (env.scope.names.map (·.1)).Nodup
 hh : hand = true → A.handled = none
 hk : A.depth ≤ k ∧ A.units ≤ k
 hlim : k + 3 * lim ≤ 900
 hL : env.locals = L
 hf : env.scope.kind = .function
 hg : env.globals = mainGlobals
 hb : env.builtins = builtinsNs
 XB : (hd.heap_1 w.params).In base
 TB : TopRead p loose mg mb base
 bm : ∃ b ob,BMod base mainGlobals mg b ob
 gS : ∀ h,G h → base.StaysIn h
 gB : ∀ h0 h m,G h0 → Fr h0 L h m → Below A base stk h
 hfn : fn = true → ∃ (A₀ : Around) (outer : List Env) (name : Str) (scope : Scope) (a : Addr) (cd : Value),(env = envOfC name scope L a cd ∧ own = ownOf (L + 1) scope.names) ∧ A = A₀.deeper env ∧ (∀ h,G h → Below A₀ base outer h) ∧
  (∀ h h',G h → KtsTurn (frs outer) h h' → Below A₀ base outer h' → G h' ∧ Tn h h') ∧ stk = env :: outer
 sS : ∀ s h tk,S s { s with heap := h,toks := tk }
 sG : tm = true → fn = true → ∀ s h tk gs,(AllBare s.gens → AllBare gs) → S s { s with heap := h,toks := tk,gens := gs }
 sT : ∀ a b c,S a b → S b c → S a c
 tr : ∀ h,Tn h h
 tt : ∀ h h' h'',Tn h h' → Tn h' h'' → Tn h h''
 tl : ∀ h h',Tn h h' → ∀ a o,h.get? a = some o → ∃ sl,h'.get? a = some { o with slots := sl }
 oc : ∀ q ∈ own,env.cells.lookup q.1 = some q.2
 oi : ∀ x y c,env.scope.names.lookup x = some .cell → env.cells.lookup x = some c → (y,c) ∈ own → x = y
theorem Cx.hfnE (cx : Cx) (h : cx.fn = true) {P : Prop} (k : ∀ (A₀ : Around) (outer : List Env) (name : Str) (scope : Scope) (a : Addr) (cd : Value),cx.env = envOfC name scope cx.L a cd → cx.own = ownOf (cx.L + 1) scope.names → cx.A = A₀.deeper cx.env → (∀ h,cx.G h → Below A₀ cx.base outer h) →
  (∀ h h',cx.G h → KtsTurn (frs outer) h h' → Below A₀ cx.base outer h' → cx.G h' ∧ cx.Tn h h') → cx.stk = cx.env :: outer → P) : P := by
 obtain ⟨A₀,outer,name,scope,a,cd,⟨h1,h2⟩,h3,h4,h5,h6⟩ := cx.hfn h
 exact k A₀ outer name scope a cd h1 h2 h3 h4 h5 h6
structure Sig where
 names : List (Str × NameKind)
 tm : Bool
 hand : Bool
 fn : Bool
 lim : Nat
 own : List Str
 cd : Value
noncomputable def Cx.names (cx : Cx) : List (Str × NameKind) := cx.env.scope.names
noncomputable def Cx.sig (cx : Cx) : Sig := ⟨cx.names,cx.tm,cx.hand,cx.fn,cx.lim,cx.own.map (·.1),cx.env.code⟩
theorem nO {cx : Cx} {ns : Sig} (h : cx.sig = ns) : cx.names = ns.names := by rw [← h]; rfl
theorem tmOf {cx : Cx} {ns : Sig} (h : cx.sig = ns) (e : ns.tm = true) : cx.tm = true := by rw [← h] at e; exact e
theorem limOf {cx : Cx} {ns : Sig} (h : cx.sig = ns) : cx.lim = ns.lim := by rw [← h]; rfl
theorem hhOf {cx : Cx} {ns : Sig} (h : cx.sig = ns) (e : ns.hand = true) : cx.A.handled = none := cx.hh (by rw [← h] at e; exact e)
noncomputable def Rt.mu (r : Rt) (cx : Cx) : Led := if cx.tm then r.cs ++ r.fl else r.cs
noncomputable abbrev prg : Program := PySem.Challenge.rw_oc0181_01.row.prog
noncomputable def At (cx : Cx) (r : Rt) (x : Str) (kd : NameKind) (v : Value) : Prop :=
 (kd = .local ∧ r.m x = some v) ∨ (kd = .cell ∧ ∃ c o,cx.env.cells.lookup x = some c ∧ ((c,o) ∈ r.cs ∨ r.K.h0.get? c = some o) ∧ o.data = .cell (some v))
structure RelP (cx : Cx) (r : Rt) (σ : St) : Prop where
 nd : ((r.mu cx).map (·.1)).Nodup
 dj : ∀ p ∈ r.mu cx,∀ q ∈ r.K.fz ++ r.it,p.1 ≠ q.1
 di : ∀ p ∈ r.K.fz,∀ q ∈ r.it,p.1 ≠ q.1
 pl : ∀ p ∈ r.K.fz,p.2.dict = none ∧ p.2.slots = #[]
 lv : cx.tm = false → ∀ p ∈ r.fl,r.K.h0.get? p.1 = some p.2
 G : cx.G r.K.h0
 kh : ∀ a,r.K.kn a → ∃ o,r.K.h0.get? a = some o
 E : ∀ (k : Nat) (av : AV),σ.env[k]? = some (some av) → ∃ x kd v,cx.names[k]? = some (x,kd) ∧ cx.names.lookup x = some kd ∧ At cx r x kd v ∧ RV r.K r.γ v av
 len : σ.heap.length = r.os.length
 H : ∀ (i : Nat) (ao : AO) (n : Nat),σ.heap[i]? = some (ao,n) → ∃ a es,r.os[i]? = some (a,es) ∧ RO prg cx.w r.K r.γ a ao es
 cc : ∀ q ∈ cx.own,∃ o v,(q.2,o) ∈ r.cs ∧ o.data = .cell v
structure Rel (cx : Cx) (r : Rt) (σ : St) (s : Shared) : Prop extends RelP cx r σ where
 F : Fr r.K.h0 cx.L s.heap r.m
 N : News r.K.h0 cx.L s.heap (r.mu cx ++ (r.K.fz ++ r.it))
structure Kno.Le (K K' : Kno) : Prop where
 fz : ∀ p ∈ K.fz,p ∈ K'.fz
 kn : K'.kn = K.kn
 tl : ∀ a o,K.h0.get? a = some o → ∃ sl,K'.h0.get? a = some { o with slots := sl }
theorem Kno.Le.refl {K : Kno} : Kno.Le K K := ⟨fun _ h => h,rfl,fun _ o h => ⟨o.slots,h⟩⟩
theorem Kno.Le.trans {a b c : Kno} (x : Kno.Le a b) (y : Kno.Le b c) : Kno.Le a c :=
 ⟨fun p h => y.fz p (x.fz p h),y.kn.trans x.kn,fun p o h => by
  obtain ⟨s1,h1⟩ := x.tl p o h
  obtain ⟨s2,h2⟩ := y.tl p _ h1
  exact ⟨s2,h2⟩⟩
structure Later (cx : Cx) (r r' : Rt) : Prop where
 K : Kno.Le r.K r'.K
 γ : ∃ t,r'.γ = r.γ ++ t
 tn : cx.Tn r.K.h0 r'.K.h0
theorem Later.refl {cx : Cx} {r : Rt} : Later cx r r := ⟨.refl,⟨[],(List.append_nil _).symm⟩,cx.tr _⟩
theorem Later.trans {cx : Cx} {r r' r'' : Rt} (a : Later cx r r') (b : Later cx r' r'') : Later cx r r'' := by
 obtain ⟨t,ht⟩ := a.γ
 obtain ⟨u,hu⟩ := b.γ
 exact ⟨a.K.trans b.K,⟨t ++ u,by rw [hu,ht,List.append_assoc]⟩,cx.tt _ _ _ a.tn b.tn⟩
structure Ver (r : Rt) (σ : St) (r' : Rt) (σ' : St) : Prop where
 ver : ∀ (j : Nat) (ao : AO) (n : Nat),σ.heap[j]? = some (ao,n) → ∃ ao' n',σ'.heap[j]? = some (ao',n') ∧ n ≤ n' ∧ (n = n' → r'.os[j]? = r.os[j]?)
 it : r'.it = r.it
 cs : r'.cs.map (·.1) = r.cs.map (·.1)
theorem Ver.refl {r : Rt} {σ : St} : Ver r σ r σ := ⟨fun j ao n h => ⟨ao,n,h,Nat.le_refl _,fun _ => rfl⟩,rfl,rfl⟩
theorem Ver.trans {r r' r'' : Rt} {σ σ' σ'' : St} (a : Ver r σ r' σ') (b : Ver r' σ' r'' σ'') : Ver r σ r'' σ'' := by
 refine ⟨fun j ao n h => ?_,b.it.trans a.it,b.cs.trans a.cs⟩
 obtain ⟨ao',n',h1,h2,h3⟩ := a.ver j ao n h
 obtain ⟨ao'',n'',k1,k2,k3⟩ := b.ver j ao' n' h1
 exact ⟨ao'',n'',k1,Nat.le_trans h2 k2,fun e => by
  have e1 : n = n' := Nat.le_antisymm h2 (e ▸ k2)
  have e2 : n' = n'' := e1 ▸ e
  exact (k3 e2).trans (h3 e1)⟩
structure Go (cx : Cx) (r : Rt) (σ : St) (s : Shared) (r' : Rt) (σ' : St) (s' : Shared) : Prop extends Later cx r r',Ver r σ r' σ' where
 S : cx.S s s'
 os : cx.tm = false → r'.os = r.os ∧ σ'.heap = σ.heap
theorem Go.refl {cx : Cx} {r : Rt} {σ : St} {s : Shared} : Go cx r σ s r σ s := ⟨.refl,.refl,cx.sS s s.heap s.toks,fun _ => ⟨rfl,rfl⟩⟩
theorem Go.trans {cx : Cx} {r r' r'' : Rt} {σ σ' σ'' : St} {s s' s'' : Shared} (a : Go cx r σ s r' σ' s') (b : Go cx r' σ' s' r'' σ'' s'') : Go cx r σ s r'' σ'' s'' :=
 ⟨a.toLater.trans b.toLater,a.toVer.trans b.toVer,cx.sT _ _ _ a.S b.S,fun h => ⟨(b.os h).1.trans (a.os h).1,(b.os h).2.trans (a.os h).2⟩⟩
theorem KL.le {K K' : Kno} (x : Kno.Le K K') {a : Addr} {vs : List Value} (h : KL K a vs) : KL K' a vs := by
 rcases h with ⟨h1,o,h2,h3⟩ | ⟨n,h⟩
 ·obtain ⟨sl,h4⟩ := x.tl _ _ h2
  exact .inl ⟨by rw [x.kn]; exact h1,_,h4,h3⟩
 ·exact .inr ⟨n,x.fz _ h⟩
theorem KT.le {K K' : Kno} (x : Kno.Le K K') {a : Addr} {vs : List Value} (h : KT K a vs) : KT K' a vs := by
 rcases h with ⟨h1,o,h2,h3⟩ | ⟨n,h⟩
 ·obtain ⟨sl,h4⟩ := x.tl _ _ h2
  exact .inl ⟨by rw [x.kn]; exact h1,_,h4,h3⟩
 ·exact .inr ⟨n,x.fz _ h⟩
theorem KM.le {K K' : Kno} (x : Kno.Le K K') {q it : Addr} (h : KM K q it) : KM K' q it := by
 rcases h with ⟨h1,o,h2,h3⟩ | h
 ·obtain ⟨sl,h4⟩ := x.tl _ _ h2
  exact .inl ⟨by rw [x.kn]; exact h1,_,h4,h3⟩
 ·exact .inr (x.fz _ h)
theorem RV.mono {K K' : Kno} {γ γ' : List Addr} {v : Value} {x : AV} (R : RV K γ v x) (hl : ∀ a vs,KL K a vs → KL K' a vs) (ht : ∀ a vs,KT K a vs → KT K' a vs) (hf : ∀ a b,KM K a b → KM K' a b) (hg : ∀ (n : Nat) (a : Addr),γ[n]? = some a → γ'[n]? = some a) : RV K' γ' v x := by
 induction R with
 | none => exact .none
 | bool b => exact .bool b
 | int i t => exact .int i t
 | str x t => exact .str x t
 | flt x t i h => exact .flt x t i h
 | ref a n h => exact .ref a n (hg _ _ h)
 | nxt q it n h h2 => exact .nxt q it n (hg _ _ h) (hf _ _ h2)
 | fl a vs xs hk hn _ ih => exact .fl a vs xs (hl _ _ hk) hn ih
 | tp a vs xs hk hn _ ih => exact .tp a vs xs (ht _ _ hk) hn ih
theorem pre_get {γ t : List Addr} {n : Nat} {a : Addr} (h : γ[n]? = some a) : (γ ++ t)[n]? = some a := by
 rw [List.getElem?_append_left (List.getElem?_eq_some_iff.mp h).1]; exact h
theorem RV.later {cx : Cx} {r r' : Rt} {v : Value} {x : AV} (R : RV r.K r.γ v x) (h : Later cx r r') : RV r'.K r'.γ v x := by
 obtain ⟨t,ht⟩ := h.γ
 exact R.mono (fun _ _ => KL.le h.K) (fun _ _ => KT.le h.K) (fun _ _ => KM.le h.K) fun n a e => by rw [ht]; exact pre_get e
theorem RVs.later {cx : Cx} {r r' : Rt} {v : List Value} {x : List AV} (R : RVs r.K r.γ v x) (h : Later cx r r') : RVs r'.K r'.γ v x := ⟨R.1,fun i a b e f => (R.2 i a b e f).later h⟩
theorem RO.later {cx : Cx} {r r' : Rt} {prog : Program} {w : World} {a : Addr} {x : AO} {es : Led} (R : RO prog w r.K r.γ a x es) (h : Later cx r r') : RO prog w r'.K r'.γ a x es := by
 have hg : ∀ (n : Nat) (a : Addr),r.γ[n]? = some a → r'.γ[n]? = some a := fun n a e => by obtain ⟨t,ht⟩ := h.γ; rw [ht]; exact pre_get e
 cases R with
 | list vs xs n h1 => exact .list _ vs xs n (h1.later h)
 | dict o kvs xs h1 h2 h3 h4 => exact .dict _ o kvs xs h1 h2 h3 (h4.later h)
 | set o S n ks h1 h2 h3 => exact .set _ o S n ks h1 h2 h3
 | inst dx ta tb tc td va vb vc vd xa xb xc xd h1 h2 h3 h4 => exact .inst _ dx ta tb tc td va vb vc vd xa xb xc xd (h1.later h) (h2.later h) (h3.later h) (h4.later h)
 | info dx sx np t k u n h1 => exact .info _ dx sx np t k u n (hg _ _ h1)
 | iter la l pos h1 => exact .iter _ la l pos (hg _ _ h1)
 | dead o => exact .dead _ o
 | tbl ps h0 h => exact .tbl _ ps h0 h
noncomputable def rep (D : Addr) (o' : Obj) (l : Led) : Led := l.map fun p => if p.1 = D then (D,o') else p
theorem rep_ne {D : Addr} {o' : Obj} : ∀ {l : Led},(∀ p ∈ l,p.1 ≠ D) → rep D o' l = l
 | [],_ => rfl
 | p :: r,h => by
  show (if p.1 = D then _ else p) :: rep D o' r = _
  rw [if_neg (h p (.head _)),rep_ne fun q hq => h q (.tail _ hq)]
theorem rep_fst {D : Addr} {o' : Obj} {l : Led} : (rep D o' l).map (·.1) = l.map (·.1) := by
 unfold rep
 rw [List.map_map]
 apply List.map_congr_left
 intro p _
 show (if p.1 = D then (D,o') else p).1 = p.1
 split
 ·rename_i h; exact h.symm
 ·rfl
theorem rep_append {D : Addr} {o' : Obj} {a b : Led} : rep D o' (a ++ b) = rep D o' a ++ rep D o' b := List.map_append
theorem updF_rep {D : Addr} {o : Obj} : ∀ {l fz : Led},(D,o) ∈ l → (l.map (·.1)).Nodup → (∀ p ∈ fz,p.1 ≠ D) → UpdF D o (l ++ fz) (fun o' => rep D o' l ++ fz)
 | p :: r,fz,hm,nd,hf => by
  rw [List.map_cons,List.nodup_cons] at nd
  by_cases e : p.1 = D
  ·have hne : ∀ q ∈ r,q.1 ≠ D := fun q hq e' => nd.1 (by rw [e,← e']; exact List.mem_map_of_mem hq)
   have : p = (D,o) := by
    rcases List.mem_cons.mp hm with h | h
    ·exact h.symm
    ·exact absurd rfl (hne _ h)
   subst this
   have : (fun o' => rep D o' ((D,o) :: r) ++ fz) = fun o' => (D,o') :: (r ++ fz) := by
    funext o'
    show (if D = D then (D,o') else _) :: rep D o' r ++ fz = _
    rw [if_pos rfl,rep_ne hne]; rfl
   rw [this]
   exact .head fun q hq => (mA hq).elim (hne q) (hf q)
  ·have hm' : (D,o) ∈ r := by
    rcases List.mem_cons.mp hm with h | h
    ·exact absurd (by rw [← h]) e
    ·exact h
   have ih := updF_rep hm' nd.2 hf
   have : (fun o' => rep D o' (p :: r) ++ fz) = fun o' => p :: (fun o' => rep D o' r ++ fz) o' := by
    funext o'
    show (if p.1 = D then _ else p) :: rep D o' r ++ fz = _
    rw [if_neg e]; rfl
   rw [this]
   exact .tail e ih
noncomputable def repOs (D : Addr) (o' : Obj) (os : List (Addr × Led)) : List (Addr × Led) := os.map fun q => (q.1,rep D o' q.2)
theorem repOs_γ {D : Addr} {o' : Obj} {os : List (Addr × Led)} : (repOs D o' os).map (·.1) = os.map (·.1) := by
 unfold repOs; rw [List.map_map]; rfl
theorem repOs_fl {D : Addr} {o' : Obj} : ∀ {os : List (Addr × Led)},(repOs D o' os).flatMap (·.2) = rep D o' (os.flatMap (·.2))
 | [] => rfl
 | q :: r => by
  show rep D o' q.2 ++ (repOs D o' r).flatMap (·.2) = rep D o' (q.2 ++ r.flatMap (·.2))
  rw [repOs_fl,rep_append]
theorem nodup_apart : ∀ {os : List (Addr × Led)} {i j : Nat} {q q' : Addr × Led},((os.flatMap (·.2)).map (·.1)).Nodup → os[i]? = some q → os[j]? = some q' → i ≠ j → ∀ p ∈ q.2,∀ p' ∈ q'.2,p.1 ≠ p'.1
 | [],i,_,_,_,_,h,_,_ => by simp at h
 | a :: r,i,j,q,q',nd,hi,hj,hne => by
  rw [List.flatMap_cons,List.map_append,List.nodup_append] at nd
  obtain ⟨n1,n2,n3⟩ := nd
  have mem : ∀ {k : Nat} {x : Addr × Led},r[k]? = some x → ∀ p ∈ x.2,p.1 ∈ (r.flatMap (·.2)).map (·.1) := fun hk p hp => List.mem_map_of_mem (List.mem_flatMap.mpr ⟨_,List.mem_of_getElem? hk,hp⟩)
  rcases i with _ | i <;> rcases j with _ | j
  ·exact absurd rfl hne
  ·simp only [List.getElem?_cons_zero,Option.some.injEq,List.getElem?_cons_succ] at hi hj
   subst hi
   exact fun p hp p' hp' => n3 _ (List.mem_map_of_mem hp) _ (mem hj p' hp')
  ·simp only [List.getElem?_cons_zero,Option.some.injEq,List.getElem?_cons_succ] at hi hj
   subst hj
   exact fun p hp p' hp' e => n3 _ (List.mem_map_of_mem hp') _ (mem hi p hp) e.symm
  ·simp only [List.getElem?_cons_succ] at hi hj
   exact nodup_apart n2 hi hj (fun e => hne (by rw [e]))
section
variable {cx : Cx} {r : Rt} {σ : St} {s : Shared}
theorem mu_mut (hm : cx.tm = true) : r.mu cx = r.cs ++ r.fl := by unfold Rt.mu; rw [if_pos hm]
theorem ento (hm : cx.tm = true) {i : Nat} {q : Addr × Led} (h : r.os[i]? = some q) {p : Addr × Obj} (hp : p ∈ q.2) : p ∈ r.mu cx := by
 rw [mu_mut hm]
 exact mR _ (List.mem_flatMap.mpr ⟨_,List.mem_of_getElem? h,hp⟩)
theorem RelP.updF (R : RelP cx r σ) (hm : cx.tm = true) {i : Nat} {q : Addr × Led} (h : r.os[i]? = some q) {D : Addr} {o : Obj} (hp : (D,o) ∈ q.2) : UpdF D o (r.mu cx ++ (r.K.fz ++ r.it)) (fun o' => rep D o' (r.mu cx) ++ (r.K.fz ++ r.it)) :=
 updF_rep (ento hm h hp) R.nd fun p hq e => R.dj _ (ento hm h hp) p hq e.symm
theorem Rel.upd (R : Rel cx r σ s) (hm : cx.tm = true) {i : Nat} {a : Addr} {es : Led} (h : r.os[i]? = some (a,es)) {D : Addr} {o o' : Obj} (hp : (D,o) ∈ es) {h' : Heap} {tk : Nat}
  (F' : Fr r.K.h0 cx.L h' r.m) (N' : News r.K.h0 cx.L h' (rep D o' (r.mu cx) ++ (r.K.fz ++ r.it))) {ao0 ao : AO} {n0 : Nat} (ha : σ.heap[i]? = some (ao0,n0)) (hro : RO prg cx.w r.K r.γ a ao (rep D o' es)) :
  Rel cx { r with os := repOs D o' r.os } { σ with heap := σ.heap.set i (ao,n0 + 1) } { s with heap := h',toks := tk } ∧ Go cx r σ s { r with os := repOs D o' r.os } { σ with heap := σ.heap.set i (ao,n0 + 1) } { s with heap := h',toks := tk } := by
 have nd := R.nd
 rw [mu_mut hm] at nd
 have hD : (D,o) ∈ r.fl := List.mem_flatMap.mpr ⟨_,List.mem_of_getElem? h,hp⟩
 have hcs : ∀ p ∈ r.cs,p.1 ≠ D := fun p hq e => by
  rw [List.map_append,List.nodup_append] at nd
  exact nd.2.2 _ (List.mem_map_of_mem hq) _ (List.mem_map_of_mem hD) e
 have hmu : Rt.mu { r with os := repOs D o' r.os } cx = rep D o' (r.mu cx) := by
  rw [mu_mut hm,mu_mut hm,rep_append,rep_ne hcs]
  show r.cs ++ (repOs D o' r.os).flatMap (·.2) = _
  rw [repOs_fl]; rfl
 have hγ : Rt.γ { r with os := repOs D o' r.os } = r.γ := repOs_γ
 have hlt : i < σ.heap.length := (List.getElem?_eq_some_iff.mp ha).1
 have ap : ∀ {j : Nat} {b : Addr} {es' : Led},i ≠ j → r.os[j]? = some (b,es') → (repOs D o' r.os)[j]? = some (b,es') := fun {j b es'} hij h1 => by
  have ap : ∀ p ∈ es',p.1 ≠ D := fun p hq e2 => by
   rw [List.map_append,List.nodup_append] at nd
   exact nodup_apart nd.2.1 h1 h (Ne.symm hij) p hq (D,o) hp e2
  unfold repOs; rw [List.getElem?_map,h1]; show some (b,rep D o' es') = _; rw [rep_ne ap]
 refine ⟨⟨⟨by rw [hmu,rep_fst]; exact R.nd,?_,R.di,R.pl,(fun q => absurd (hm.symm.trans q) (by decide)),R.G,R.kh,?_,?_,?_,R.cc⟩,F',by rw [hmu]; exact N'⟩,⟨⟨.refl,⟨[],by rw [hγ,List.append_nil]⟩,cx.tr _⟩,⟨?_,rfl,rfl⟩,cx.sS ..,fun q => Bool.noConfusion (hm.symm.trans q)⟩⟩
 ·intro p hq q hq'
  rw [hmu] at hq
  have : p.1 ∈ (rep D o' (r.mu cx)).map (·.1) := List.mem_map_of_mem hq
  rw [rep_fst] at this
  obtain ⟨p',h1,h2⟩ := List.mem_map.mp this
  rw [← h2]
  exact R.dj _ h1 q hq'
 ·intro k av e
  rw [hγ]
  exact R.E k av e
 ·show (σ.heap.set i _).length = (repOs D o' r.os).length
  rw [List.length_set,R.len]; unfold repOs; rw [List.length_map]
 ·intro j ao' n' e
  rw [hγ]
  have e' : (σ.heap.set i (ao,n0 + 1))[j]? = some (ao',n') := e
  rw [List.getElem?_set] at e'
  by_cases hij : i = j
  ·subst hij
   rw [if_pos rfl,if_pos hlt] at e'
   cases e'
   exact ⟨a,rep D o' es,by show (repOs D o' r.os)[i]? = _; unfold repOs; rw [List.getElem?_map,h]; rfl,hro⟩
  ·rw [if_neg hij] at e'
   obtain ⟨b,es',h1,h2⟩ := R.H j ao' n' e'
   exact ⟨b,es',ap hij h1,h2⟩
 ·intro j ao' n' e
  show ∃ ao'' n'',(σ.heap.set i (ao,n0 + 1))[j]? = _ ∧ _
  rw [List.getElem?_set]
  by_cases hij : i = j
  ·subst hij
   rw [ha] at e; cases e
   rw [if_pos rfl,if_pos hlt]
   exact ⟨_,_,rfl,Nat.le_succ _,fun e => absurd e (Nat.ne_of_lt (Nat.lt_succ_self _))⟩
  ·rw [if_neg hij]
   obtain ⟨b,es',h1,_⟩ := R.H j ao' n' e
   exact ⟨ao',n',e,Nat.le_refl _,fun _ => (ap hij h1).trans h1.symm⟩
theorem Rel.fzn (R : Rel cx r σ s) {a : Addr} {o : Obj} {h' : Heap} {tk : Nat} (F' : Fr r.K.h0 cx.L h' r.m) (N' : News r.K.h0 cx.L h' ((a,o) :: (r.mu cx ++ (r.K.fz ++ r.it)))) (hn : ∀ p ∈ r.mu cx ++ (r.K.fz ++ r.it),p.1 < a) (hpl : o.dict = none ∧ o.slots = #[] := by exact ⟨rfl,rfl⟩) :
  Rel cx { r with K := { r.K with fz := (a,o) :: r.K.fz } } σ { s with heap := h',toks := tk } ∧ Go cx r σ s { r with K := { r.K with fz := (a,o) :: r.K.fz } } σ { s with heap := h',toks := tk } := by
 have L : Later cx r { r with K := { r.K with fz := (a,o) :: r.K.fz } } := ⟨⟨fun _ q => .tail _ q,rfl,fun _ o e => ⟨o.slots,e⟩⟩,⟨[],(List.append_nil _).symm⟩,cx.tr _⟩
 refine ⟨⟨⟨R.nd,?_,?_,?_,R.lv,R.G,R.kh,?_,R.len,?_,R.cc⟩,F',fun p hp => N' p ?_⟩,L,⟨fun j ao n h => ⟨ao,n,h,Nat.le_refl _,fun _ => rfl⟩,rfl,rfl⟩,cx.sS ..,fun _ => ⟨rfl,rfl⟩⟩
 ·intro p hp q hq
  rcases List.mem_cons.mp hq with rfl | hq
  ·exact Nat.ne_of_lt (hn p (mL _ hp))
  ·exact R.dj p hp q hq
 ·intro p hp q hq
  rcases List.mem_cons.mp hp with rfl | hp
  ·exact (Nat.ne_of_lt (hn q (mR _ (mR _ hq)))).symm
  ·exact R.di p hp q hq
 ·intro p hp
  rcases List.mem_cons.mp hp with rfl | hp
  ·exact hpl
  ·exact R.pl p hp
 ·intro k av e
  obtain ⟨x,kd,v,h1,h2,h3,h4⟩ := R.E k av e
  exact ⟨x,kd,v,h1,h2,h3,h4.later L⟩
 ·intro i ao n e
  obtain ⟨b,es,h1,h2⟩ := R.H i ao n e
  exact ⟨b,es,h1,h2.later L⟩
 ·rcases mA hp with h | h
  ·exact .tail _ (mL _ h)
  ·rcases List.mem_cons.mp h with rfl | h
   ·exact .head _
   ·exact .tail _ (mR _ h)
theorem Rel.osn (R : Rel cx r σ s) (hm : cx.tm = true) {a : Addr} {es : Led} {h' : Heap} {tk : Nat} (F' : Fr r.K.h0 cx.L h' r.m) (N' : News r.K.h0 cx.L h' (es ++ (r.mu cx ++ (r.K.fz ++ r.it)))) (hn : ∀ p ∈ r.mu cx ++ (r.K.fz ++ r.it),∀ q ∈ es,p.1 ≠ q.1) (hnd : (es.map (·.1)).Nodup)
  {ao : AO} (hro : RO prg cx.w r.K (r.γ ++ [a]) a ao es) :
  Rel cx { r with os := r.os ++ [(a,es)] } { σ with heap := σ.heap ++ [(ao,0)] } { s with heap := h',toks := tk } ∧ Go cx r σ s { r with os := r.os ++ [(a,es)] } { σ with heap := σ.heap ++ [(ao,0)] } { s with heap := h',toks := tk } := by
 have hγ : Rt.γ { r with os := r.os ++ [(a,es)] } = r.γ ++ [a] := by
  show (r.os ++ [(a,es)]).map (·.1) = _
  rw [List.map_append]; rfl
 have hmu : Rt.mu { r with os := r.os ++ [(a,es)] } cx = r.mu cx ++ es := by
  rw [mu_mut hm,mu_mut hm]
  show r.cs ++ (r.os ++ [(a,es)]).flatMap (·.2) = _
  rw [List.flatMap_append,List.append_assoc]
  simp [Rt.fl]
 have L : Later cx r { r with os := r.os ++ [(a,es)] } := ⟨.refl,⟨[a],hγ⟩,cx.tr _⟩
 have oldos : ∀ {i : Nat},i < σ.heap.length → (r.os ++ [(a,es)])[i]? = r.os[i]? := fun hi => List.getElem?_append_left (by rw [← R.len]; exact hi)
 refine ⟨⟨⟨?_,?_,R.di,R.pl,(fun q => absurd (hm.symm.trans q) (by decide)),R.G,R.kh,?_,?_,?_,R.cc⟩,F',fun p hp => N' p ?_⟩,L,⟨fun j ao n h => ?_,rfl,rfl⟩,cx.sS ..,fun q => Bool.noConfusion (hm.symm.trans q)⟩
 ·rw [hmu,List.map_append,List.nodup_append]
  refine ⟨R.nd,hnd,fun x hx y hy => ?_⟩
  obtain ⟨p,h1,rfl⟩ := List.mem_map.mp hx
  obtain ⟨q,h2,rfl⟩ := List.mem_map.mp hy
  exact hn p (mL _ h1) q h2
 ·intro p hp q hq
  rw [hmu] at hp
  rcases mA hp with h | h
  ·exact R.dj p h q hq
  ·exact (hn q (mR _ hq) p h).symm
 ·intro k av e
  obtain ⟨x,kd,v,h1,h2,h3,h4⟩ := R.E k av e
  exact ⟨x,kd,v,h1,h2,h3,h4.later L⟩
 ·show (σ.heap ++ [(ao,0)]).length = (r.os ++ [(a,es)]).length
  rw [List.length_append,List.length_append,R.len]; rfl
 ·intro i ao' n' e
  have e' : (σ.heap ++ [(ao,0)])[i]? = some (ao',n') := e
  by_cases hi : i < σ.heap.length
  ·rw [List.getElem?_append_left hi] at e'
   obtain ⟨b,es',h1,h2⟩ := R.H i ao' n' e'
   exact ⟨b,es',(oldos hi).trans h1,h2.later L⟩
  ·rw [List.getElem?_append_right (by exact Nat.le_of_not_lt ‹_›)] at e'
   have : i - σ.heap.length = 0 := by
    have := (List.getElem?_eq_some_iff.mp e').1
    simp at this; omega
   rw [this] at e'
   cases e'
   have hi' : i = r.os.length := by rw [← R.len]; grind
   refine ⟨a,es,by show (r.os ++ [(a,es)])[i]? = _; rw [hi']; simp,?_⟩
   rw [hγ]; exact hro
 ·rw [hmu] at hp
  rcases mA hp with h | h
  ·rcases mA h with h | h
   ·exact mR _ (mL _ h)
   ·exact mL _ h
  ·exact mR _ (mR _ h)
 ·have hj := (List.getElem?_eq_some_iff.mp h).1
  exact ⟨ao,n,(List.getElem?_append_left hj).trans h,Nat.le_refl _,fun _ => oldos hj⟩
theorem Rel.keep (R : Rel cx r σ s) {h' : Heap} {tk : Nat} (k : s.heap.StaysIn h') : Rel cx r σ { s with heap := h',toks := tk } := ⟨R.toRelP,fr_stay R.F k,news_stay R.N k⟩
theorem Rel.fn (R : Rel cx r σ s) {h' : Heap} {tk : Nat} (F' : Fr r.K.h0 cx.L h' r.m) (N' : News r.K.h0 cx.L h' (r.mu cx ++ (r.K.fz ++ r.it))) : Rel cx r σ { s with heap := h',toks := tk } := ⟨R.toRelP,F',N'⟩
theorem Rel.tok (R : Rel cx r σ s) {tk : Nat} : Rel cx r σ { s with toks := tk } := ⟨R.toRelP,R.F,R.N⟩
theorem Go.same {h' : Heap} {tk : Nat} : Go cx r σ s r σ { s with heap := h',toks := tk } := ⟨.refl,.refl,cx.sS ..,fun _ => ⟨rfl,rfl⟩⟩
theorem Rel.get (R : Rel cx r σ s) {i : Nat} {a : Addr} {es : Led} (h : r.os[i]? = some (a,es)) {p : Addr × Obj} (hp : p ∈ es) : s.heap.get? p.1 = some p.2 := by
 by_cases hm : cx.tm = true
 ·exact (R.N p (mL _ (ento hm h hp))).1
 ·exact R.F.keep _ _ (R.lv (by simpa using hm) p (List.mem_flatMap.mpr ⟨_,List.mem_of_getElem? h,hp⟩))
theorem Rel.kld (R : Rel cx r σ s) {a : Addr} {vs : List Value} (h : KL r.K a vs) : IsLd s.heap a vs := by
 rcases h with ⟨_,h⟩ | ⟨n,h⟩
 ·exact h.at fun o e => R.F.keep _ _ e
 ·exact ⟨_,(R.N _ (mR _ (mL _ h))).1,rfl,⟨n,rfl⟩,rfl⟩
theorem Rel.kl (R : Rel cx r σ s) {a : Addr} {vs : List Value} (h : KL r.K a vs) : s.heap.IsList a vs.toArray := (R.kld h).list
theorem Rel.kt (R : Rel cx r σ s) {a : Addr} {vs : List Value} (h : KT r.K a vs) : s.heap.IsTuple a vs.toArray := by
 rcases h with ⟨_,o,h,c⟩ | ⟨n,h⟩
 ·exact ⟨o,R.F.keep _ _ h,c⟩
 ·exact ⟨_,(R.N _ (mR _ (mL _ h))).1,rfl,n,rfl⟩
theorem Rel.km (R : Rel cx r σ s) {q it : Addr} (h : KM r.K q it) : IsMw s.heap q it := by
 rcases h with ⟨_,o,h,c⟩ | h
 ·exact ⟨o,R.F.keep _ _ h,c⟩
 ·exact ⟨_,(R.N _ (mR _ (mL _ h))).1,rfl,rfl⟩
theorem RelP.idx (R : RelP cx r σ) {n : Nat} {a : Addr} (h : r.γ[n]? = some a) {ao : AO} {k : Nat} (e : σ.heap[n]? = some (ao,k)) : ∃ es,r.os[n]? = some (a,es) ∧ RO prg cx.w r.K r.γ a ao es := by
 obtain ⟨b,es,h1,h2⟩ := R.H n ao k e
 have : r.γ[n]? = some b := by unfold Rt.γ; rw [List.getElem?_map,h1]; rfl
 rw [this] at h; cases h
 exact ⟨es,h1,h2⟩
end
section
variable {β : Type} {y : β} {P : Prop}
theorem ifM {c : Prop} [Decidable c] {a : Option β} (h : (if c then a else none) = some y) (k : c → a = some y → P) : P := by
 by_cases hc : c
 ·rw [if_pos hc] at h; exact k hc h
 ·rw [if_neg hc] at h; exact noneE h
theorem mapM {α : Type} {a : Option α} {f : α → β} (h : a.map f = some y) (k : ∀ x,a = some x → f x = y → P) : P := by
 cases a with
 | none => exact noneE h
 | some x => exact k x rfl (Option.some.inj h)
theorem intM {b : AV} {F : Int → Option β} (h : (match b with | .int k => F k | _ => none) = some y) (k : ∀ i,b = .int i → F i = some y → P) : P := by
 cases b with
 | int i => exact k i rfl h
 | _ => exact noneE h
theorem noneM {b : AV} {F : Option β} (h : (match b with | .none => F | _ => none) = some y) (k : b = .none → F = some y → P) : P := by
 cases b with
 | none => exact k rfl h
 | _ => exact noneE h
theorem boolM {b : AV} {F : Bool → Option β} (h : (match b with | .bool k => F k | _ => none) = some y) (k : ∀ i,b = .bool i → F i = some y → P) : P := by
 cases b with
 | bool i => exact k i rfl h
 | _ => exact noneE h
theorem strM {b : AV} {F : Str → Option β} (h : (match b with | .str k => F k | _ => none) = some y) (k : ∀ i,b = .str i → F i = some y → P) : P := by
 cases b with
 | str i => exact k i rfl h
 | _ => exact noneE h
theorem refM {b : AV} {F : Nat → Option β} (h : (match b with | .ref n => F n | _ => none) = some y) (k : ∀ n,b = .ref n → F n = some y → P) : P := by
 cases b with
 | ref n => exact k n rfl h
 | _ => exact noneE h
theorem nxtM {b : AV} {F : Nat → Option β} (h : (match b with | .nxt n => F n | _ => none) = some y) (k : ∀ n,b = .nxt n → F n = some y → P) : P := by
 cases b with
 | nxt n => exact k n rfl h
 | _ => exact noneE h
theorem flsM {b : AV} {F : List AV → Option β} (h : (match b with | .fl xs => F xs | _ => none) = some y) (k : ∀ xs,b = .fl xs → F xs = some y → P) : P := by
 cases b with
 | fl xs => exact k xs rfl h
 | _ => exact noneE h
theorem refIntM {o i : AV} {F : Nat → Int → Option β} (h : (match o,i with | .ref n,.int k => F n k | _,_ => none) = some y) (k : ∀ n j,o = .ref n → i = .int j → F n j = some y → P) : P := by
 cases o with
 | ref n =>
  cases i with
  | int j => exact k n j rfl rfl h
  | _ => exact noneE h
 | _ => exact noneE h
theorem intIntM {o i : AV} {F : Int → Int → Option β} (h : (match o,i with | .int n,.int k => F n k | _,_ => none) = some y) (k : ∀ n j,o = .int n → i = .int j → F n j = some y → P) : P := by
 cases o with
 | int n =>
  cases i with
  | int j => exact k n j rfl rfl h
  | _ => exact noneE h
 | _ => exact noneE h
theorem listM {o : Option (AO × Nat)} {F : List AV → Nat → Option β} (h : (match o with | some (.list xs,n) => F xs n | _ => none) = some y) (k : ∀ xs n,o = some (.list xs,n) → F xs n = some y → P) : P := by
 cases o with
 | none => exact noneE h
 | some p =>
  obtain ⟨a,n⟩ := p
  cases a with
  | list xs => exact k xs n rfl h
  | _ => exact noneE h
theorem dictM {o : Option (AO × Nat)} {F : List (Int × AV) → Nat → Option β} (h : (match o with | some (.dict xs,n) => F xs n | _ => none) = some y) (k : ∀ xs n,o = some (.dict xs,n) → F xs n = some y → P) : P := by
 cases o with
 | none => exact noneE h
 | some p =>
  obtain ⟨a,n⟩ := p
  cases a with
  | dict xs => exact k xs n rfl h
  | _ => exact noneE h
theorem setM {o : Option (AO × Nat)} {F : List Int → Nat → Option β} (h : (match o with | some (.set xs,n) => F xs n | _ => none) = some y) (k : ∀ xs n,o = some (.set xs,n) → F xs n = some y → P) : P := by
 cases o with
 | none => exact noneE h
 | some p =>
  obtain ⟨a,n⟩ := p
  cases a with
  | set xs => exact k xs n rfl h
  | _ => exact noneE h
theorem iterM {o : Option (AO × Nat)} {F : Nat → Nat → Nat → Option β} (h : (match o with | some (.iter l p,n) => F l p n | _ => none) = some y) (k : ∀ l p n,o = some (.iter l p,n) → F l p n = some y → P) : P := by
 cases o with
 | none => exact noneE h
 | some p =>
  obtain ⟨a,n⟩ := p
  cases a with
  | iter l q => exact k l q n rfl h
  | _ => exact noneE h
end
theorem falseE {P : Prop} (h : false = true) : P := nomatch h
section
variable {P : Prop}
theorem refB {b : AV} {F : Nat → Bool} (h : (match b with | .ref n => F n | _ => false) = true) (k : ∀ n,b = .ref n → F n = true → P) : P := by
 cases b with
 | ref n => exact k n rfl h
 | _ => exact falseE h
theorem listB {o : Option (AO × Nat)} {F : List AV → Nat → Bool} (h : (match o with | some (.list xs,n) => F xs n | _ => false) = true) (k : ∀ xs n,o = some (.list xs,n) → F xs n = true → P) : P := by
 cases o with
 | none => exact falseE h
 | some p =>
  obtain ⟨a,n⟩ := p
  cases a with
  | list xs => exact k xs n rfl h
  | _ => exact falseE h
theorem dictB {o : Option (AO × Nat)} {F : List (Int × AV) → Nat → Bool} (h : (match o with | some (.dict xs,n) => F xs n | _ => false) = true) (k : ∀ xs n,o = some (.dict xs,n) → F xs n = true → P) : P := by
 cases o with
 | none => exact falseE h
 | some p =>
  obtain ⟨a,n⟩ := p
  cases a with
  | dict xs => exact k xs n rfl h
  | _ => exact falseE h
theorem setB {o : Option (AO × Nat)} {F : List Int → Nat → Bool} (h : (match o with | some (.set xs,n) => F xs n | _ => false) = true) (k : ∀ xs n,o = some (.set xs,n) → F xs n = true → P) : P := by
 cases o with
 | none => exact falseE h
 | some p =>
  obtain ⟨a,n⟩ := p
  cases a with
  | set xs => exact k xs n rfl h
  | _ => exact falseE h
end
noncomputable def PV (cx : Cx) (r : Rt) (σ : St) (s : Shared) (v : AV) (σ' : St) (Q : Value → Shared → Prop) : Prop := ∀ r' s' cv,Go cx r σ s r' σ' s' → Rel cx r' σ' s' → RV r'.K r'.γ cv v → Q cv s'
noncomputable def PL (cx : Cx) (r : Rt) (σ : St) (s : Shared) (v : List AV) (σ' : St) (Q : List Value → Shared → Prop) : Prop := ∀ r' s' cv,Go cx r σ s r' σ' s' → Rel cx r' σ' s' → RVs r'.K r'.γ cv v → Q cv s'
noncomputable def PB (cx : Cx) (r : Rt) (σ : St) (s : Shared) (v : Bool) (σ' : St) (Q : Bool → Shared → Prop) : Prop := ∀ r' s',Go cx r σ s r' σ' s' → Rel cx r' σ' s' → Q v s'
theorem PV.eq {cx : Cx} {r : Rt} {σ σ1 σ' : St} {s : Shared} {a v : AV} {Q : Value → Shared → Prop} (h : PV cx r σ s v σ' Q) (e : some (a,σ1) = some (v,σ')) : PV cx r σ s a σ1 Q := by cases e; exact h
theorem PL.eq {cx : Cx} {r : Rt} {σ σ1 σ' : St} {s : Shared} {a v : List AV} {Q : List Value → Shared → Prop} (h : PL cx r σ s v σ' Q) (e : some (a,σ1) = some (v,σ')) : PL cx r σ s a σ1 Q := by cases e; exact h
theorem PB.eq {cx : Cx} {r : Rt} {σ σ1 σ' : St} {s : Shared} {a v : Bool} {Q : Bool → Shared → Prop} (h : PB cx r σ s v σ' Q) (e : some (a,σ1) = some (v,σ')) : PB cx r σ s a σ1 Q := by cases e; exact h
noncomputable def PU (cx : Cx) (r : Rt) (σ : St) (s : Shared) (σ' : St) (Q : Unit → Shared → Prop) : Prop := ∀ r' s',Go cx r σ s r' σ' s' → Rel cx r' σ' s' → Q () s'
theorem PU.eq {cx : Cx} {r : Rt} {σ σ1 σ' : St} {s : Shared} {Q : Unit → Shared → Prop} (h : PU cx r σ s σ' Q) (e : some σ1 = some σ') : PU cx r σ s σ1 Q := by cases e; exact h
structure SE (ns : Sig) (e : PySem.Expr) (f : St → Option (AV × St)) : Prop where
 run : ∀ cx : Cx,cx.sig = ns → ∀ σ v σ',f σ = some (v,σ') → ∀ r s,Rel cx r σ s → ∀ (Q : Value → Shared → Prop) (E : Value → Shared → Prop),
  PV cx r σ s v σ' Q → wpAny (model prg cx.w) cx.A (eval e cx.env) Q E s
structure SA (ns : Sig) (es : List PySem.Expr) (f : St → Option (List AV × St)) : Prop where
 run : ∀ cx : Cx,cx.sig = ns → ∀ σ v σ',f σ = some (v,σ') → ∀ r s,Rel cx r σ s → ∀ (pos : Pos) (Q : List Value → Shared → Prop) (E : Value → Shared → Prop),
  PL cx r σ s v σ' Q → wpAny (model prg cx.w) cx.A (spliced (backTo pos (starEach es cx.env))) Q E s
structure ST (ns : Sig) (e : PySem.Expr) (f : St → Option (Bool × St)) : Prop where
 run : ∀ cx : Cx,cx.sig = ns → ∀ σ v σ',f σ = some (v,σ') → ∀ r s,Rel cx r σ s → ∀ (Q : Bool → Shared → Prop) (E : Value → Shared → Prop),
  PB cx r σ s v σ' Q → wpAny (model prg cx.w) cx.A (isTrue e cx.env (eval e cx.env)) Q E s
theorem bS {α β : Type} {a : Option α} {f : α → Option β} {b : β} (h : (a >>= f) = some b) : ∃ x,a = some x ∧ f x = some b := by
 cases a with
 | none => cases h
 | some x => exact ⟨x,rfl,h⟩
section
variable {ns : Sig} {cx : Cx} {r : Rt} {σ : St} {s : Shared}
theorem Rel.Fe (R : Rel cx r σ s) : Fr r.K.h0 cx.env.locals s.heap r.m := by rw [cx.hL]; exact R.F
theorem Rel.Ne (R : Rel cx r σ s) : News r.K.h0 cx.env.locals s.heap (r.mu cx ++ (r.K.fz ++ r.it)) := by rw [cx.hL]; exact R.N
theorem cs_mu {p : Addr × Obj} (h : p ∈ r.cs) : p ∈ r.mu cx := by
 unfold Rt.mu
 split
 ·exact mL _ h
 ·exact h
theorem Rel.X (R : Rel cx r σ s) : (hd.heap_1 cx.w.params).In r.K.h0 := cx.XB.keeps (cx.gS _ R.G)
theorem Rel.Xs (R : Rel cx r σ s) : (hd.heap_1 cx.w.params).In s.heap := R.X.keeps R.F.keep
theorem Rel.T (R : Rel cx r σ s) : TopRead cx.p cx.loose cx.mg cx.mb r.K.h0 := cx.TB.keeps (cx.gS _ R.G)
noncomputable def getE (k : Nat) (σ : St) : Option AV := (σ.env[k]?).join
theorem getE_some {k : Nat} {σ : St} {v : AV} (h : getE k σ = some v) : σ.env[k]? = some (some v) := by
 unfold getE at h
 cases e : σ.env[k]? with
 | none => rw [e] at h; cases h
 | some o => rw [e] at h; cases o with
  | none => cases h
  | some w => cases h; rfl
noncomputable def fName (k : Nat) (σ : St) : Option (AV × St) := (getE k σ).map fun v => (v,σ)
theorem fName_some {k : Nat} {σ σ' : St} {v : AV} (h : fName k σ = some (v,σ')) : σ.env[k]? = some (some v) ∧ σ' = σ := by
 unfold fName at h
 cases e : getE k σ with
 | none => rw [e] at h; cases h
 | some w => rw [e] at h; cases h; exact ⟨getE_some e,rfl⟩
theorem se_name {x : Str} {k : Nat} {kd : NameKind} {pos : Pos} (hk : ns.names[k]? = some (x,kd)) (hd : (x == ("__debug__" : Str)) = false) : SE ns (.Name x pos) (fName k) := by
 refine ⟨?_⟩
 intro cx hn σ v σ' hf r s R Q E hq
 obtain ⟨he,rfl⟩ := fName_some hf
 obtain ⟨x',kd',cv,h1,h2,h3,h4⟩ := R.E k v he
 rw [nO hn,hk] at h1
 cases h1
 rcases h3 with ⟨rfl,hm⟩ | ⟨rfl,c,o,hc,hco,ho⟩
 ·exact nmL R.Fe hm (hq r s cv .refl R h4) cx.hf h2 hd
 ·rcases hco with hco | hco
  ·exact nmC R.Ne hc (mL _ (cs_mu hco)) ho (hq r s cv .refl R h4) cx.hf h2 hd
  ·exact nmCB R.Fe hc ⟨o,hco,ho⟩ (hq r s cv .refl R h4) cx.hf h2 hd
theorem se_glob {x : Str} {pos : Pos} {gv : Value} {v : AV} (hx : ns.names.lookup x = some .globalImplicit) (hv : ∀ P,nsIn (hd.heap_1 P) mainGlobals x = some (some gv)) (hr : ∀ K γ,RV K γ gv v) (hd : (x == ("__debug__" : Str)) = false) :
  SE ns (.Name x pos) (fun σ => some (v,σ)) := by
 refine ⟨?_⟩
 intro cx hn σ v' σ' hf r s R Q E hq
 replace hq := hq.eq hf
 exact nmK R.Fe R.X R.T (hv _) (hq r s gv .refl R (hr _ _)) cx.hg cx.hf (show cx.names.lookup x = _ by rw [nO hn]; exact hx) hd
theorem se_int {i : Int} {k : Nat} {pos : Pos} : SE ns (.Constant (.int i) k pos) (fun σ => some (.int i,σ)) := by
 refine ⟨?_⟩
 intro cx hn σ v σ' hf r s R Q E hq
 replace hq := hq.eq hf
 exact wpAny_Constant_int (hq r _ _ .same R.tok (.int _ _))
theorem se_none {k : Nat} {pos : Pos} : SE ns (.Constant .none k pos) (fun σ => some (.none,σ)) := by
 refine ⟨?_⟩
 intro cx hn σ v σ' hf r s R Q E hq
 replace hq := hq.eq hf
 exact wpAny_Constant_none (hq r _ _ .refl R .none)
theorem se_bool {b : Bool} {k : Nat} {pos : Pos} : SE ns (.Constant (.bool b) k pos) (fun σ => some (.bool b,σ)) := by
 refine ⟨?_⟩
 intro cx hn σ v σ' hf r s R Q E hq
 replace hq := hq.eq hf
 exact Constant_bool (hq r _ _ .refl R (.bool b))
theorem sa_nil : SA ns [] (fun σ => some ([],σ)) := by
 refine ⟨?_⟩
 intro cx hn σ v σ' hf r s R pos Q E hq
 replace hq := hq.eq hf
 exact args_nil (hq r _ _ .refl R ⟨rfl,fun i v x h => by simp at h⟩)
theorem RVs.cons {K : Kno} {γ : List Addr} {v : Value} {x : AV} {vs : List Value} {xs : List AV} (h : RV K γ v x) (t : RVs K γ vs xs) : RVs K γ (v :: vs) (x :: xs) := by
 refine ⟨by rw [List.length_cons,List.length_cons,t.1],fun i a b e f => ?_⟩
 cases i with
 | zero => cases e; cases f; exact h
 | succ i => exact t.2 i a b e f
noncomputable def fCons (f : St → Option (AV × St)) (g : St → Option (List AV × St)) (σ : St) : Option (List AV × St) := f σ >>= fun p => g p.2 >>= fun q => some (p.1 :: q.1,q.2)
theorem sa_cons {e : PySem.Expr} {es : List PySem.Expr} {f : St → Option (AV × St)} {g : St → Option (List AV × St)} (he : SE ns e f) (hes : SA ns es g) (hst : ∀ env,starEach (e :: es) env = (false,eval e env) :: starEach es env) : SA ns (e :: es) (fCons f g) := by
 refine ⟨?_⟩
 intro cx hn σ v σ' hf r s R pos Q E hq
 obtain ⟨⟨a,σ1⟩,h1,h2⟩ := bS hf
 obtain ⟨⟨b,σ2⟩,h3,h4⟩ := bS h2
 replace hq := hq.eq h4
 refine args_cons (he.run cx hn _ _ _ h1 r s R _ _ fun r1 s1 ca g1 R1 ra => ?_) (hst _)
 refine hes.run cx hn _ _ _ h3 r1 s1 R1 pos _ _ fun r2 s2 cb g2 R2 rb => ?_
 exact hq r2 s2 _ (g1.trans g2) R2 (RVs.cons (ra.later g2.toLater) rb)
inductive Fld | n2i | rdy | po | nf | node | np | succ
noncomputable def Fld.nm : Fld → Str
 | .n2i => Str.ofString "_node2info" | .rdy => Str.ofString "_ready_nodes" | .po => Str.ofString "_npassedout" | .nf => Str.ofString "_nfinished" | .node => Str.ofString "node" | .np => Str.ofString "npredecessors" | .succ => Str.ofString "successors"
noncomputable def getF (fd : Fld) (v : AV) (σ : St) : Option (AV × St) := match v with
 | .ref i => (match σ.heap[i]? with
  | some (.inst a b c d,_) => (match fd with | .n2i => some (a,σ) | .rdy => some (b,σ) | .po => some (c,σ) | .nf => some (d,σ) | _ => none)
  | some (.info k p q,_) => (match fd with | .node => some (.int k,σ) | .np => some (.int p,σ) | .succ => some (.ref q,σ) | _ => none)
  | _ => none)
 | _ => none
theorem handed_RV {K : Kno} {γ : List Addr} {v : Value} {x : AV} (h : RV K γ v x) : handedIn v = true := by cases h <;> rfl
section
variable {β : Type} {y : β}
theorem instInfoM {o : Option (AO × Nat)} {F : AV → AV → AV → AV → Nat → Option β} {G : Int → Int → Nat → Nat → Option β} {P : Prop} (h : (match o with | some (.inst a b c d,n) => F a b c d n | some (.info k p q,n) => G k p q n | _ => none) = some y)
  (k1 : ∀ a b c d n,o = some (.inst a b c d,n) → F a b c d n = some y → P) (k2 : ∀ k p q n,o = some (.info k p q,n) → G k p q n = some y → P) : P := by
 cases o with
 | none => exact noneE h
 | some p =>
  obtain ⟨a,n⟩ := p
  cases a with
  | inst a b c d => exact k1 a b c d n rfl h
  | info a b c => exact k2 a b c n rfl h
  | _ => exact noneE h
theorem fld4M {fd : Fld} {A B C D : Option β} {P : Fld → Prop} (h : (match fd with | .n2i => A | .rdy => B | .po => C | .nf => D | _ => none) = some y) (a : A = some y → P .n2i) (b : B = some y → P .rdy) (c : C = some y → P .po) (d : D = some y → P .nf) : P fd := by
 cases fd with
 | n2i => exact a h
 | rdy => exact b h
 | po => exact c h
 | nf => exact d h
 | _ => exact noneE h
theorem fld3M {fd : Fld} {A B C : Option β} {P : Fld → Prop} (h : (match fd with | .node => A | .np => B | .succ => C | _ => none) = some y) (a : A = some y → P .node) (b : B = some y → P .np) (c : C = some y → P .succ) : P fd := by
 cases fd with
 | node => exact a h
 | np => exact b h
 | succ => exact c h
 | _ => exact noneE h
theorem npM {fd : Fld} {x : AV} {A : Int → Option β} {P : Fld → AV → Prop} (h : (match fd,x with | .np,.int p => A p | _,_ => none) = some y) (a : ∀ p,x = .int p → A p = some y → P .np (.int p)) : P fd x := by
 cases fd with
 | np =>
  cases x with
  | int p => exact a p rfl h
  | _ => exact noneE h
 | _ => exact noneE h
end
theorem eq2 {a x : AV} {σ σ' : St} {Q : AV → St → Prop} (e : some (a,σ) = some (x,σ')) (h : Q a σ) : Q x σ' := by cases e; exact h
theorem eq1 {σ σ' : St} {Q : St → Prop} (e : some σ = some σ') (h : Q σ) : Q σ' := by cases e; exact h
theorem getF_E {fd : Fld} {v x : AV} {σ σ' : St} {P : Fld → AV → St → Prop} (h : getF fd v σ = some (x,σ')) (h1 : ∀ i a b c d k,v = .ref i → σ.heap[i]? = some (.inst a b c d,k) → P .n2i a σ ∧ P .rdy b σ ∧ P .po c σ ∧ P .nf d σ)
  (h2 : ∀ i nd np q k,v = .ref i → σ.heap[i]? = some (.info nd np q,k) → P .node (.int nd) σ ∧ P .np (.int np) σ ∧ P .succ (.ref q) σ) : P fd x σ' :=
 refM h fun i e h => instInfoM h
  (fun a b c d n hh h => fld4M (P := fun fd => P fd x σ') h (fun e' => eq2 e' (h1 i a b c d n e hh).1) (fun e' => eq2 e' (h1 i a b c d n e hh).2.1) (fun e' => eq2 e' (h1 i a b c d n e hh).2.2.1) (fun e' => eq2 e' (h1 i a b c d n e hh).2.2.2))
  (fun a b c n hh h => fld3M (P := fun fd => P fd x σ') h (fun e' => eq2 e' (h2 i a b c n e hh).1) (fun e' => eq2 e' (h2 i a b c n e hh).2.1) (fun e' => eq2 e' (h2 i a b c n e hh).2.2))
theorem getF_ok {fd : Fld} {v x : AV} {σ' : St} (hf : getF fd v σ = some (x,σ')) (R : Rel cx r σ s) {cv : Value} (hv : RV r.K r.γ cv v) {b : Bool} {Q : Value → Shared → Prop} {E : Value → Shared → Prop}
  (hq : ∀ s' cx',Go cx r σ s r σ' s' → Rel cx r σ' s' → RV r.K r.γ cx' x → Q cx' s') : wpAny (model prg cx.w) cx.A (getAttr cv fd.nm b) Q E s := by
 refine getF_E (P := fun fd x σ' => (∀ s' cx',Go cx r σ s r σ' s' → Rel cx r σ' s' → RV r.K r.γ cx' x → Q cx' s') → wpAny (model prg cx.w) cx.A (getAttr cv fd.nm b) Q E s) hf (fun i va vb vc vd k e hh => ?_) (fun i nd np q k e hh => ?_) hq
 ·subst e
  obtain ⟨a,rfl,hγ⟩ := hv.ref_inv
  obtain ⟨es,h1,h2⟩ := R.idx hγ hh
  obtain ⟨dx,ta,tb,tc,td,ca,cb,cc,cd,rfl,h3,h4,h5,h6⟩ := h2.inst_inv
  have I : W.InstAt s.heap a (instObj 185 dx) 185 (some (dictOf (flds cx.w.params ta tb tc td ca cb cc cd) 4)) := ⟨R.get h1 (.head _),rfl,rfl,R.get h1 (.tail _ (.head _))⟩
  exact ⟨fun hq => get_own R.F R.X I (by kernel_rfl) (by kernel_rfl) (attr := none) (by kernel_rfl) (by kernel_rfl) rfl (handed_RV h3) (hq _ _ .same R.tok h3),
   fun hq => get_own R.F R.X I (by kernel_rfl) (by kernel_rfl) (attr := none) (by kernel_rfl) (by kernel_rfl) rfl (handed_RV h4) (hq _ _ .same R.tok h4),
   fun hq => get_own R.F R.X I (by kernel_rfl) (by kernel_rfl) (attr := none) (by kernel_rfl) (by kernel_rfl) rfl (handed_RV h5) (hq _ _ .same R.tok h5),
   fun hq => get_own R.F R.X I (by kernel_rfl) (by kernel_rfl) (attr := none) (by kernel_rfl) (by kernel_rfl) rfl (handed_RV h6) (hq _ _ .same R.tok h6)⟩
 ·subst e
  obtain ⟨a,rfl,hγ⟩ := hv.ref_inv
  obtain ⟨es,h1,h2⟩ := R.idx hγ hh
  obtain ⟨dx,sx,tt,tu,rfl,h3⟩ := h2.info_inv
  have I : W.InstAt s.heap a (infO dx sx np tt nd tu) 88 (some (dictOf [] 0)) := ⟨R.get h1 (.head _),rfl,rfl,R.get h1 (.tail _ (.head _))⟩
  exact ⟨fun hq => get_slot (p := 89) (i := 0) R.F R.X I (by kernel_rfl) (by kernel_rfl) (by kernel_rfl) (by kernel_rfl) (by kernel_rfl) (by kernel_rfl) rfl rfl (hq _ _ .same R.tok (.int _ _)),
   fun hq => get_slot (p := 90) (i := 1) R.F R.X I (by kernel_rfl) (by kernel_rfl) (by kernel_rfl) (by kernel_rfl) (by kernel_rfl) (by kernel_rfl) rfl rfl (hq _ _ .same R.tok (.int _ _)),
   fun hq => get_slot (p := 91) (i := 2) R.F R.X I (by kernel_rfl) (by kernel_rfl) (by kernel_rfl) (by kernel_rfl) (by kernel_rfl) (by kernel_rfl) rfl rfl (hq _ _ .same R.tok (.ref _ _ h3))⟩
theorem se_attr {o : PySem.Expr} {pos : Pos} {fo : St → Option (AV × St)} (fd : Fld) (ho : SE ns o fo)
  (hev : ∀ env,eval (.Attribute o fd.nm pos) env = (do let v ← eval o env; standAt pos.atName; let r ← holding [v] (getAttr v fd.nm true); letTemporaryGo o v r; pure r) := by intro _; with_unfolding_all rfl) :
  SE ns (.Attribute o fd.nm pos) (fun σ => fo σ >>= fun p => getF fd p.1 p.2) := by
 refine ⟨?_⟩
 intro cx hn σ v σ' hf r s R Q E hq
 obtain ⟨⟨a,σ1⟩,h1,h2⟩ := bS hf
 refine Attribute_any_ (ho.run cx hn _ _ _ h1 r s R _ _ fun r1 s1 ca g1 R1 ra => ?_) (hev _)
 exact getF_ok h2 R1 ra fun s2 c2 g2 R2 rc => hq r1 s2 c2 (g1.trans g2) R2 rc
theorem upd_of {D : Addr} {o o' : Obj} {l : Led} {g : Obj → Led} (u : UpdF D o l g) : Upd D o o' l (g o') := by
 induction u with
 | head h => exact .head h
 | tail h _ ih => exact .tail h ih
noncomputable def turn (σ : St) (i : Nat) (ao : AO) (k : Nat) : St := { σ with heap := σ.heap.set i (ao,k + 1) }
noncomputable def setF (fd : Fld) (v x : AV) (σ : St) : Option St := match v with
 | .ref i => (match σ.heap[i]? with
  | some (.inst a b c d,k) => (match fd with | .n2i => some (turn σ i (.inst x b c d) k) | .rdy => some (turn σ i (.inst a x c d) k) | .po => some (turn σ i (.inst a b x d) k) | .nf => some (turn σ i (.inst a b c x) k) | _ => none)
  | some (.info nd _ q,k) => (match fd,x with | .np,.int p => some (turn σ i (.info nd p q) k) | _,_ => none)
  | _ => none)
 | _ => none
theorem rep_two {a b : Addr} {o p q : Obj} (h : a ≠ b) : rep b q [(a,o),(b,p)] = [(a,o),(b,q)] := by
 show [if a = b then _ else (a,o),if b = b then (b,q) else _] = _
 rw [if_neg h,if_pos rfl]
theorem rep_fst2 {a b : Addr} {o p q : Obj} (h : b ≠ a) : rep a q [(a,o),(b,p)] = [(a,q),(b,p)] := by
 show [if a = a then (a,q) else _,if b = a then _ else (b,p)] = _
 rw [if_neg h,if_pos rfl]
theorem rep_one {a : Addr} {o q : Obj} : rep a q [(a,o)] = [(a,q)] := by
 show [if a = a then (a,q) else _] = _
 rw [if_pos rfl]
theorem RelP.ne2 (R : RelP cx r σ) (hm : cx.tm = true) {i : Nat} {a b : Addr} {o p : Obj} {c : Addr} (h : r.os[i]? = some (c,[(a,o),(b,p)])) : a ≠ b := by
 have nd := R.nd
 rw [mu_mut hm,List.map_append,List.nodup_append] at nd
 have : ∀ {os : List (Addr × Led)} {i : Nat},((os.flatMap (·.2)).map (·.1)).Nodup → os[i]? = some (c,[(a,o),(b,p)]) → a ≠ b := by
  intro os
  induction os with
  | nil => intro i _ h; simp at h
  | cons q t ih =>
   intro i nd h
   rw [List.flatMap_cons,List.map_append,List.nodup_append] at nd
   cases i with
   | zero =>
    simp only [List.getElem?_cons_zero,Option.some.injEq] at h
    subst h
    have := nd.1
    simp at this
    exact this
   | succ i => exact ih nd.2.1 (by simpa using h)
 exact this nd.2.1 h
theorem setF_E {fd : Fld} {v x : AV} {σ σ' : St} {P : Fld → AV → St → Prop} (h : setF fd v x σ = some σ') (h1 : ∀ i a b c d k,v = .ref i → σ.heap[i]? = some (.inst a b c d,k) → P .n2i x (turn σ i (.inst x b c d) k) ∧ P .rdy x (turn σ i (.inst a x c d) k) ∧ P .po x (turn σ i (.inst a b x d) k) ∧ P .nf x (turn σ i (.inst a b c x) k))
  (h2 : ∀ i nd np q k p,v = .ref i → σ.heap[i]? = some (.info nd np q,k) → x = .int p → P .np (.int p) (turn σ i (.info nd p q) k)) : P fd x σ' :=
 refM h fun i e h => instInfoM h
  (fun a b c d n hh h => fld4M (P := fun fd => P fd x σ') h (fun e' => eq1 e' (h1 i a b c d n e hh).1) (fun e' => eq1 e' (h1 i a b c d n e hh).2.1) (fun e' => eq1 e' (h1 i a b c d n e hh).2.2.1) (fun e' => eq1 e' (h1 i a b c d n e hh).2.2.2))
  (fun a b c n hh h => npM (P := fun fd x => P fd x σ') h fun p ex e' => eq1 e' (h2 i a b c n p e hh ex))
theorem setF_ok (hm : cx.tm = true) {fd : Fld} {v x : AV} {σ' : St} (hf : setF fd v x σ = some σ') (R : Rel cx r σ s) {cv xv : Value} (hv : RV r.K r.γ cv v) (hx : RV r.K r.γ xv x) {Q : Unit → Shared → Prop} {E : Value → Shared → Prop}
  (hq : PU cx r σ s σ' Q) : wpAny (model prg cx.w) cx.A (setAttr cv fd.nm xv) Q E s := by
 refine setF_E (P := fun fd x σ' => PU cx r σ s σ' Q → wpAny (model prg cx.w) cx.A (setAttr cv fd.nm xv) Q E s) hf (fun i va vb vc vd k e hh => ?_) (fun i nd np q k p e hh ex => ?_) hq
 ·subst e
  obtain ⟨a,rfl,hγ⟩ := hv.ref_inv
  obtain ⟨es,h1,h2⟩ := R.idx hγ hh
  obtain ⟨dx,ta,tb,tc,td,ca,cb,cc,cd,rfl,h3,h4,h5,h6⟩ := h2.inst_inv
  have I : W.InstAt s.heap a (instObj 185 dx) 185 (some (dictOf (flds cx.w.params ta tb tc td ca cb cc cd) 4)) := ⟨R.get h1 (.head _),rfl,rfl,R.get h1 (.tail _ (.head _))⟩
  have ne := R.ne2 hm h1
  have U := R.updF hm h1 (.tail _ (.head _))
  refine ⟨fun hq => ?_,fun hq => ?_,fun hq => ?_,fun hq => ?_⟩
  ·refine set_dict R.F R.X R.N I rfl (by kernel_rfl) (by kernel_rfl) (by kernel_rfl) (by kernel_rfl) rfl (Prod.ext rfl rfl) (upd_of U) (Nat.le_of_ble_eq_true rfl) fun h' F' N' => ?_
   obtain ⟨R',g'⟩ := R.upd hm h1 (.tail _ (.head _)) F' N' hh (ao := .inst x vb vc vd) (by rw [rep_two ne]; exact .inst _ _ _ _ _ _ _ _ _ _ _ _ _ _ hx h4 h5 h6)
   exact hq _ _ g' R'
  ·refine set_dict R.F R.X R.N I rfl (by kernel_rfl) (by kernel_rfl) (by kernel_rfl) (by kernel_rfl) rfl (Prod.ext rfl rfl) (upd_of U) (Nat.le_of_ble_eq_true rfl) fun h' F' N' => ?_
   obtain ⟨R',g'⟩ := R.upd hm h1 (.tail _ (.head _)) F' N' hh (ao := .inst va x vc vd) (by rw [rep_two ne]; exact .inst _ _ _ _ _ _ _ _ _ _ _ _ _ _ h3 hx h5 h6)
   exact hq _ _ g' R'
  ·refine set_dict R.F R.X R.N I rfl (by kernel_rfl) (by kernel_rfl) (by kernel_rfl) (by kernel_rfl) rfl (Prod.ext rfl rfl) (upd_of U) (Nat.le_of_ble_eq_true rfl) fun h' F' N' => ?_
   obtain ⟨R',g'⟩ := R.upd hm h1 (.tail _ (.head _)) F' N' hh (ao := .inst va vb x vd) (by rw [rep_two ne]; exact .inst _ _ _ _ _ _ _ _ _ _ _ _ _ _ h3 h4 hx h6)
   exact hq _ _ g' R'
  ·refine set_dict R.F R.X R.N I rfl (by kernel_rfl) (by kernel_rfl) (by kernel_rfl) (by kernel_rfl) rfl (Prod.ext rfl rfl) (upd_of U) (Nat.le_of_ble_eq_true rfl) fun h' F' N' => ?_
   obtain ⟨R',g'⟩ := R.upd hm h1 (.tail _ (.head _)) F' N' hh (ao := .inst va vb vc x) (by rw [rep_two ne]; exact .inst _ _ _ _ _ _ _ _ _ _ _ _ _ _ h3 h4 h5 hx)
   exact hq _ _ g' R'
 ·subst e ex
  obtain ⟨a,rfl,hγ⟩ := hv.ref_inv
  obtain ⟨es,h1,h2⟩ := R.idx hγ hh
  obtain ⟨dx,sx,tt,tu,rfl,h3⟩ := h2.info_inv
  have I : W.InstAt s.heap a (infO dx sx np tt nd tu) 88 (some (dictOf [] 0)) := ⟨R.get h1 (.head _),rfl,rfl,R.get h1 (.tail _ (.head _))⟩
  have ne := R.ne2 hm h1
  have U := R.updF hm h1 (.head _)
  obtain ⟨pt,rfl⟩ := hx.int_inv
  intro hq
  refine set_slot (p := 90) (i := 1) R.F R.X R.N I (by kernel_rfl) (by kernel_rfl) (by kernel_rfl) (by kernel_rfl) (by kernel_rfl) (by decide) (ox' := infO dx sx p pt nd tu) rfl rfl (upd_of U) fun h' F' N' => ?_
  obtain ⟨R',g'⟩ := R.upd hm h1 (.head _) F' N' hh (ao := .info nd p q) (by rw [rep_fst2 (Ne.symm ne)]; exact .info _ _ _ _ _ _ _ _ h3)
  exact hq _ _ g' R'
end
section
variable {ns : Sig} {cx : Cx} {r : Rt} {σ : St} {s : Shared}
theorem RVs.get {K : Kno} {γ : List Addr} {vs : List Value} {xs : List AV} (h : RVs K γ vs xs) {i : Nat} {x : AV} (e : xs[i]? = some x) : ∃ v,vs[i]? = some v ∧ RV K γ v x := by
 have hi := (List.getElem?_eq_some_iff.mp e).1
 have hv : vs[i]? = some (vs[i]'(by rw [h.1]; exact hi)) := List.getElem?_eq_getElem _
 exact ⟨_,hv,h.2 i _ x hv e⟩
noncomputable def idx (xs : List AV) (i : Int) : Option AV := if 0 ≤ i then (if i < 2 ^ 63 then xs[i.toNat]? else none) else if -(xs.length : Int) ≤ i ∧ -(2 ^ 63) ≤ i then xs[((xs.length : Int) + i).toNat]? else none
noncomputable def subV (o i : AV) (σ : St) : Option (AV × St) := match o,i with
 | .fl xs,.int k => (idx xs k).map fun v => (v,σ)
 | .tp xs,.int k => if 0 ≤ k ∧ k < 1000 then xs[k.toNat]?.map fun v => (v,σ) else none
 | .ref n,.int k => (match σ.heap[n]? with
  | some (.list xs,_) => (idx xs k).map fun v => (v,σ)
  | some (.dict kvs,_) => (kvs.lookup k).map fun v => (v,σ)
  | _ => none)
 | _,_ => none
theorem idx_ok {value slice : PySem.Expr} {l : Addr} {vs : List Value} {xs : List AV} {k : Int} {u : Tok} {x : AV} (hl : s.heap.IsList l vs.toArray) (hv : RVs r.K r.γ vs xs) (hx : idx xs k = some x) {Q : Value → Shared → Prop} {E : Value → Shared → Prop}
  (hq : ∀ v,RV r.K r.γ v x → Q v s) (hs : ∀ o i u,subscripted slice false (.ref o) (.int i u) = operate [.ref o,.int i u] (getItem (.ref o) (.int i u))) : wpAny (model prg cx.w) cx.A (subscriptTail value slice (.ref l) (.int k u)) Q E s := by
 unfold idx at hx
 split at hx
 ·rename_i h0
  refine ifM hx fun h1 hx => ?_
  obtain ⟨v,e,hr⟩ := hv.get hx
  exact item_list hl h0 h1 e (hq v hr) (hs _ _ _)
 ·rename_i h0
  refine ifM hx fun h1 hx => ?_
  obtain ⟨v,e,hr⟩ := hv.get hx
  refine kde_neg (j := ((xs.length : Int) + k).toNat) hl (by exact Int.lt_of_not_ge ‹_›) h1.2 ?_ e (hq v hr) (hs _ _ _)
  have hlen := hv.1
  have hk : k < 0 := by exact Int.lt_of_not_ge ‹_›
  show (if (decide (0 ≤ (if k < 0 then k + (vs.length : Int) else k)) && decide ((if k < 0 then k + (vs.length : Int) else k) < (vs.length : Int))) = true then some (if k < 0 then k + (vs.length : Int) else k).toNat else none) = _
  rw [if_pos hk,hlen,if_pos (by simp only [Bool.and_eq_true,decide_eq_true_eq]; lia),Int.add_comm]
theorem kvs_at {kvs : List (Int × Value)} {xs : List (Int × AV)} (h1 : kvs.map (·.1) = xs.map (·.1)) {K : Kno} {γ : List Addr} (h2 : RVs K γ (kvs.map (·.2)) (xs.map (·.2))) {k : Int} : (∀ x,xs.lookup k = some x → ∃ v,valueAt kvs k = some v ∧ RV K γ v x) ∧ (xs.lookup k = none → valueAt kvs k = none) := by
 induction kvs generalizing xs with
 | nil =>
  cases xs with
  | nil => exact ⟨(fun x h => by cases h),fun _ => rfl⟩
  | cons => cases h1
 | cons a t ih =>
  cases xs with
  | nil => cases h1
  | cons b u =>
   rw [List.map_cons,List.map_cons] at h1 h2
   obtain ⟨e1,e2⟩ := List.cons.inj h1
   have h2' : RVs K γ (t.map (·.2)) (u.map (·.2)) := ⟨(by have := h2.1; simpa using this),fun i v x hv hx => h2.2 (i + 1) v x (by simpa using hv) (by simpa using hx)⟩
   obtain ⟨i1,i2⟩ := ih e2 h2'
   have hva : valueAt (a :: t) k = if a.1 = k then some a.2 else valueAt t k := by
    unfold valueAt
    rw [List.find?_cons]
    by_cases e : a.1 = k <;> simp [e]
   rw [hva]
   obtain ⟨bk,bv⟩ := b
   rw [List.lookup_cons]
   dsimp only at e1
   by_cases e : a.1 = k
   ·have : (k == bk) = true := by rw [← e1,e]; simp
    rw [if_pos e,this]
    exact ⟨(fun x h => by cases h; exact ⟨_,rfl,h2.2 0 _ _ rfl rfl⟩),fun h => by cases h⟩
   ·have : (k == bk) = false := by rw [← e1]; simp; exact fun q => e q.symm
    rw [if_neg e,this]
    exact ⟨i1,i2⟩
theorem oneN {h : Heap} {d : Addr} {o : Obj} (e : h.get? d = some o) : News (off h [(d,o)]) (d + 1) h [(d,o)] := fun p hp => by
 obtain rfl := List.mem_singleton.mp hp
 exact ⟨e,neN (by simp),hideAll_none _ (.head _)⟩
theorem subM {β : Type} {y : β} {P : Prop} {o i : AV} {F : List AV → Int → Option β} {G : List AV → Int → Option β} {H : Nat → Int → Option β} (h : (match o,i with | .fl xs,.int k => F xs k | .tp xs,.int k => G xs k | .ref n,.int k => H n k | _,_ => none) = some y)
  (k1 : ∀ xs k,o = .fl xs → i = .int k → F xs k = some y → P) (k2 : ∀ xs k,o = .tp xs → i = .int k → G xs k = some y → P) (k3 : ∀ n k,o = .ref n → i = .int k → H n k = some y → P) : P := by
 cases o with
 | fl xs =>
  cases i with
  | int k => exact k1 xs k rfl rfl h
  | _ => exact noneE h
 | tp xs =>
  cases i with
  | int k => exact k2 xs k rfl rfl h
  | _ => exact noneE h
 | ref n =>
  cases i with
  | int k => exact k3 n k rfl rfl h
  | _ => exact noneE h
 | _ => exact noneE h
theorem listDictM {β : Type} {y : β} {P : Prop} {o : Option (AO × Nat)} {F : List AV → Nat → Option β} {G : List (Int × AV) → Nat → Option β} (h : (match o with | some (.list xs,n) => F xs n | some (.dict kvs,n) => G kvs n | _ => none) = some y)
  (k1 : ∀ xs n,o = some (.list xs,n) → F xs n = some y → P) (k2 : ∀ xs n,o = some (.dict xs,n) → G xs n = some y → P) : P := by
 cases o with
 | none => exact noneE h
 | some p =>
  obtain ⟨a,n⟩ := p
  cases a with
  | list xs => exact k1 xs n rfl h
  | dict xs => exact k2 xs n rfl h
  | _ => exact noneE h
theorem subV_inv {a b : AV} {σ : St} {p : AV × St} (h : subV a b σ = some p) : ∃ k,b = .int k ∧ ((∃ xs x,a = .fl xs ∧ idx xs k = some x ∧ p = (x,σ)) ∨ (∃ xs x,a = .tp xs ∧ 0 ≤ k ∧ k < 1000 ∧ xs[k.toNat]? = some x ∧ p = (x,σ)) ∨
  (∃ n xs j x,a = .ref n ∧ σ.heap[n]? = some (.list xs,j) ∧ idx xs k = some x ∧ p = (x,σ)) ∨ (∃ n kvs j x,a = .ref n ∧ σ.heap[n]? = some (.dict kvs,j) ∧ kvs.lookup k = some x ∧ p = (x,σ))) := by
 refine subM h (fun xs k ea eb h => ?_) (fun xs k ea eb h => ?_) (fun n k ea eb h => ?_)
 ·exact mapM h fun x h1 h2 => ⟨k,eb,.inl ⟨xs,x,ea,h1,h2.symm⟩⟩
 ·exact ifM h fun hc h => mapM h fun x h1 h2 => ⟨k,eb,.inr (.inl ⟨xs,x,ea,hc.1,hc.2,h1,h2.symm⟩)⟩
 ·exact listDictM h (fun xs j hh h => mapM h fun x h1 h2 => ⟨k,eb,.inr (.inr (.inl ⟨n,xs,j,x,ea,hh,h1,h2.symm⟩))⟩) (fun xs j hh h => mapM h fun x h1 h2 => ⟨k,eb,.inr (.inr (.inr ⟨n,xs,j,x,ea,hh,h1,h2.symm⟩))⟩)
theorem se_sub {o i : PySem.Expr} {pos : Pos} {fo fi : St → Option (AV × St)} (ho : SE ns o fo) (hi : SE ns i fi)
  (hs : ∀ o k u,subscripted i false (.ref o) (.int k u) = operate [.ref o,.int k u] (getItem (.ref o) (.int k u)) := by intro _ _ _; with_unfolding_all rfl)
  (hl : ∀ d r,letTemporaryGo o (.ref d) r = pure () := by intro _ _; with_unfolding_all rfl) :
  SE ns (.Subscript o i pos) (fun σ => fo σ >>= fun p => fi p.2 >>= fun q => subV p.1 q.1 q.2) := by
 refine ⟨?_⟩
 intro cx hn σ v σ' hf r s R Q E hq
 obtain ⟨⟨a,σ1⟩,h1,h2⟩ := bS hf
 obtain ⟨⟨b,σ2⟩,h3,h4⟩ := bS h2
 refine Subscript_ (ho.run cx hn _ _ _ h1 r s R _ _ fun r1 s1 ca g1 R1 ra => hi.run cx hn _ _ _ h3 r1 s1 R1 _ _ fun r2 s2 cb g2 R2 rb => ?_)
 have g12 := g1.trans g2
 have ra2 := ra.later g2.toLater
 obtain ⟨k,rfl,h⟩ := subV_inv h4
 obtain ⟨tb,rfl⟩ := rb.int_inv
 rcases h with ⟨xs,x,rfl,hx,e⟩ | ⟨xs,x,rfl,h0,h1,hx,e⟩ | ⟨n,xs,kk,x,rfl,hh,hx,e⟩ | ⟨n,kvs,kk,x,rfl,hh,hx,e⟩
 ·obtain ⟨a,vs,rfl,hk,hvs⟩ := ra2.fl_inv
  cases e
  exact idx_ok (r := r2) (R2.kl hk) hvs hx (fun cv hr => hq r2 s2 cv g12 R2 hr) hs
 ·obtain ⟨a,vs,rfl,hk,hvs⟩ := ra2.tp_inv
  cases e
  obtain ⟨cv,e1,e2⟩ := hvs.get hx
  refine item_tupleL (R2.kt hk) (by lia) (by omega) (j := k.toNat) ?_ e1 (hq r2 s2 cv g12 R2 e2) (hs _ _ _) (hl _)
  have hi := (List.getElem?_eq_some_iff.mp e1).1
  exact seqIndex_of h0 (by simp_all)
 ·obtain ⟨a,rfl,hγ⟩ := ra2.ref_inv
  cases e
  obtain ⟨es,h5,h6⟩ := R2.idx hγ hh
  obtain ⟨vs,nn,rfl,h7⟩ := h6.list_inv
  exact idx_ok (r := r2) ⟨_,R2.get h5 (.head _),rfl,nn,rfl⟩ h7 hx (fun cv hr => hq r2 s2 cv g12 R2 hr) hs
 ·obtain ⟨a,rfl,hγ⟩ := ra2.ref_inv
  cases e
  obtain ⟨es,h5,h6⟩ := R2.idx hγ hh
  obtain ⟨od,kv,rfl,h7,h8,h9,h10⟩ := h6.dict_inv
  obtain ⟨cv,e1,e2⟩ := (kvs_at h9 h10).1 _ hx
  exact kda_item (knd := PySem.intKind prg cx.w) (oneN (R2.get h5 (.head _))) (.head _) h7 (intKind_is _ _ _ _) e1 (hq _ _ cv (g12.trans .same) R2.tok e2) (hs _ _ _) (hl _)
noncomputable def toInts : List AV → Option (List Int)
 | [] => some []
 | .int i :: r => (toInts r).map (i :: ·)
 | _ :: _ => none
set_option tactic.hygienic true in
theorem toInts_ok {K : Kno} {γ : List Addr} : ∀ {vs : List Value} {xs : List AV} {ks : List Int},RVs K γ vs xs → toInts xs = some ks → IntsAre vs ks
 | [],[],ks,_,h => by cases h; exact .nil
 | v :: vs,x :: xs,ks,hv,h => by
  have h0 := hv.2 0 v x rfl rfl
  have ht : RVs K γ vs xs := ⟨(by have := hv.1; simpa using this),fun i a b e f => hv.2 (i + 1) a b (by simpa using e) (by simpa using f)⟩
  cases x <;> try (cases h; done)
  rename_i i
  unfold toInts at h
  cases e : toInts xs with
  | none => rw [e] at h; cases h
  | some l =>
   rw [e] at h; cases h
   obtain ⟨t,rfl⟩ := h0.int_inv
   exact .cons i t (toInts_ok ht e)
 | [],_ :: _,_,hv,_ => by have := hv.1; simp at this
 | _ :: _,[],_,hv,_ => by have := hv.1; simp at this
noncomputable def isRef : AV → Bool
 | .ref _ | .nxt _ | .fl _ | .tp _ => true
 | _ => false
theorem isRef_ok {K : Kno} {γ : List Addr} {v : Value} {x : AV} (h : RV K γ v x) (e : isRef x = true) : ∃ a,v = .ref a := by
 cases h <;> first | cases e; done | exact ⟨_,rfl⟩
noncomputable def intP (a b : AV) : Option (Int × Int) := match a with
 | .int i => (match b with | .int j => some (i,j) | _ => none)
 | _ => none
theorem intP_ok {K : Kno} {γ : List Addr} {a b : AV} {i j : Int} (h : intP a b = some (i,j)) {ca cb : Value} (ra : RV K γ ca a) (rb : RV K γ cb b) : ∃ t u,ca = .int i t ∧ cb = .int j u := by
 refine intM h fun _ eM h => ?_
 subst eM
 refine intM h fun _ eM h => ?_
 subst eM
 cases h
 obtain ⟨t,e⟩ := ra.int_inv
 obtain ⟨u,e'⟩ := rb.int_inv
 exact ⟨t,u,e,e'⟩
noncomputable def isV (a b : AV) : Option Bool := match b with
 | .none => (match a with | .none => some true | x => if isRef x then some false else none)
 | _ => none
noncomputable def intsOf (b : AV) (σ : St) : Option (List Int) := match b with
 | .fl xs => toInts xs
 | .ref n => (match σ.heap[n]? with
  | some (.list xs,_) => toInts xs
  | _ => none)
 | _ => none
set_option tactic.hygienic true in
theorem iO (R : Rel cx r σ s) {b : AV} {ks : List Int} (h : intsOf b σ = some ks) {cb : Value} (rb : RV r.K r.γ cb b) : ∃ a vs,cb = .ref a ∧ s.heap.IsList a vs.toArray ∧ IntsAre vs ks := by
 unfold intsOf at h
 split at h
 ·obtain ⟨a,vs,rfl,hk,hlen,hall⟩ := rb.fl_inv
  exact ⟨a,vs,rfl,R.kl hk,toInts_ok ⟨hlen,hall⟩ h⟩
 ·rename_i n
  refine listM h fun xs kk hh h => ?_
  obtain ⟨a,rfl,hγ⟩ := rb.ref_inv
  obtain ⟨es,h5,h6⟩ := R.idx hγ hh
  obtain ⟨vs,nn,rfl,h7⟩ := h6.list_inv
  exact ⟨a,vs,rfl,⟨_,R.get h5 (.head _),rfl,nn,rfl⟩,toInts_ok h7 h⟩
 ·cases h
noncomputable def hasV (a b : AV) (σ : St) : Option Bool := match a with
 | .int k => (match intsOf b σ with
  | some ks => some (ks.any (· == k))
  | none => (match b with
   | .ref n => (match σ.heap[n]? with
    | some (.dict kvs,_) => some (kvs.lookup k).isSome
    | some (.set ks,_) => if ks.length < 1000 then some (ks.any (· == k)) else none
    | _ => none)
   | _ => none))
 | _ => none
theorem dictSetM {β : Type} {y : β} {P : Prop} {o : Option (AO × Nat)} {F : List (Int × AV) → Nat → Option β} {G : List Int → Nat → Option β} (h : (match o with | some (.dict xs,n) => F xs n | some (.set ks,n) => G ks n | _ => none) = some y)
  (k1 : ∀ xs n,o = some (.dict xs,n) → F xs n = some y → P) (k2 : ∀ xs n,o = some (.set xs,n) → G xs n = some y → P) : P := by
 cases o with
 | none => exact noneE h
 | some p =>
  obtain ⟨a,n⟩ := p
  cases a with
  | dict xs => exact k1 xs n rfl h
  | set xs => exact k2 xs n rfl h
  | _ => exact noneE h
set_option tactic.hygienic true in
theorem hasV_ok {a b : AV} {c : Bool} (hc : hasV a b σ = some c) (R : Rel cx r σ s) {ca cb : Value} (ra : RV r.K r.γ ca a) (rb : RV r.K r.γ cb b) {Q : Value → Shared → Prop} {E : Value → Shared → Prop}
  (hq : ∀ s',Go cx r σ s r σ s' → Rel cx r σ s' → Q (.bool c) s') : wpAny (model prg cx.w) cx.A (compareOp .In ca cb) Q E s := by
 refine intM hc ?_
 clear hc
 intro k eM hc
 subst eM
 obtain ⟨t,rfl⟩ := ra.int_inv
 split at hc
 ·rename_i ks e
  cases hc
  obtain ⟨b,vs,rfl,hl,hi⟩ := iO R e rb
  exact in_list_ints hl hi (hq _ .refl R)
 ·refine refM hc ?_
  clear hc
  intro n eM hc
  subst eM
  refine dictSetM hc ?_ ?_
  all_goals clear hc
  ·intro kvs kk hh hc
   cases hc
   obtain ⟨b,rfl,hγ⟩ := rb.ref_inv
   obtain ⟨es,h5,h6⟩ := R.idx hγ hh
   obtain ⟨od,kv,rfl,h7,h8,h9,h10⟩ := h6.dict_inv
   refine kda_in (knd := PySem.intKind prg cx.w) (oneN (R.get h5 (.head _))) (.head _) h7 h8 (intKind_is _ _ _ _) _ ?_ (hq _ .same R.tok)
   cases hx : kvs.lookup k with
   | none => rw [(kvs_at h9 h10).2 hx]; rfl
   | some x => obtain ⟨cv,e1,_⟩ := (kvs_at h9 h10).1 x hx; rw [e1]; rfl
  ·intro ks kk hh hc
   refine ifM hc fun hlt hc => ?_
   cases hc
   obtain ⟨b,rfl,hγ⟩ := rb.ref_inv
   obtain ⟨es,h5,h6⟩ := R.idx hγ hh
   obtain ⟨os,S,nn,rfl,h7,h8,h9⟩ := h6.set_inv
   rw [← h9 k] at hq
   refine kse_in (knd := PySem.intKind prg cx.w) (oneN (R.get h5 (.head _))) (.head fun p hp => (nomatch hp)) h7 ?_ (intKind_is _ _ _ _) rfl (hq _ .same R.tok)
   have : scanBound = 4096 := rfl
   lia
theorem beq_lists {α : Type} [BEq α] [LawfulBEq α] (d : α) : ∀ (k l : List α),(k == l) = (k.length == l.length && (List.range k.length).all fun j => k.getD j d == l.getD j d) := by
 intro k l
 rw [Bool.eq_iff_iff]
 simp only [beq_iff_eq,Bool.and_eq_true,List.all_eq_true,List.mem_range]
 constructor
 ·rintro rfl
  exact ⟨rfl,fun _ _ => rfl⟩
 ·rintro ⟨h1,h2⟩
  refine List.ext_getElem h1 fun i h3 h4 => ?_
  have := h2 i h3
  rw [List.getD_eq_getElem?_getD,List.getD_eq_getElem?_getD,List.getElem?_eq_getElem h3,List.getElem?_eq_getElem h4] at this
  exact this
theorem rc_lists {A : Around} {s : Shared} {a b : Addr} {vs us : List Value} {e : Nat → Bool} {c : Bool} (hl : s.heap.IsList a vs.toArray) (hb : s.heap.IsList b us.toArray) (hu : A.units < cLine) (hc : c = (vs.length == us.length && (List.range vs.length).all e))
  (he : ∀ (j : Nat) v u,vs[j]? = some v → us[j]? = some u → SeqAt.EqAt A.in1 s v u (e j)) : SeqAt.RcAt A s (.ref a) (.ref b) c ∧ SeqAt.RcNeAt A s (.ref a) (.ref b) (!c) := by
 by_cases hz : vs.length = us.length
 ·have h1 : ∀ j (h1 : j < vs.toArray.size) (h2 : j < us.toArray.size),SeqAt.EqAt A.in1 s vs.toArray[j] us.toArray[j] (e j) := fun j h1 h2 => he j _ _ (by simp) (by simp)
  have hs : vs.toArray.size = us.toArray.size := by simpa using hz
  have e1 : c = (List.range vs.toArray.size).all e := by rw [hc,hz]; simp [hz]
  rw [e1]
  exact ⟨SeqAt.RcAt.lists hl hb hs hu h1,SeqAt.RcNeAt.lists hl hb hs hu h1⟩
 ·have hs : (vs.toArray.size != us.toArray.size) = true := by simpa using hz
  have e1 : c = false := by
   rw [hc]
   have : (vs.length == us.length) = false := by simpa using hz
   rw [this]; rfl
  rw [e1]
  exact ⟨SeqAt.RcAt.lists_lengths hl hb hs hu,SeqAt.RcNeAt.lists_lengths hl hb hs hu⟩
theorem ints_getD {vs : List Value} {ks : List Int} (h : IntsAre vs ks) {j : Nat} {v : Value} (hv : vs[j]? = some v) : ∃ t,v = .int (ks.getD j 0) t := ints_get h hv
theorem ints_len {vs : List Value} {ks : List Int} (h : IntsAre vs ks) : vs.length = ks.length := by
 induction h with
 | nil => rfl
 | cons _ _ _ ih => exact congrArg (· + 1) ih
theorem rc_ints {A : Around} {s : Shared} {a b : Addr} {vs us : List Value} {k l : List Int} (hl : s.heap.IsList a vs.toArray) (hi : IntsAre vs k) (hb : s.heap.IsList b us.toArray) (hj : IntsAre us l) (hu : A.units < cLine) : SeqAt.RcAt A s (.ref a) (.ref b) (k == l) ∧ SeqAt.RcNeAt A s (.ref a) (.ref b) (!(k == l)) := by
 refine rc_lists (e := fun j => k.getD j 0 == l.getD j 0) hl hb hu (by rw [beq_lists 0,ints_len hi,ints_len hj]) fun j v u h1 h2 => ?_
 obtain ⟨t,rfl⟩ := ints_getD hi h1
 obtain ⟨t',rfl⟩ := ints_getD hj h2
 exact SeqAt.EqAt.int_int _ _ _ _
noncomputable def toRows : List AV → Option (List (List Int))
 | [] => some []
 | .fl ys :: r => toInts ys >>= fun k => (toRows r).map (k :: ·)
 | _ :: _ => none
set_option tactic.hygienic true in
theorem toRows_get {K : Kno} {γ : List Addr} : ∀ {xs : List AV} {kss : List (List Int)} {vs : List Value},toRows xs = some kss → RVs K γ vs xs → vs.length = kss.length ∧ ∀ (j : Nat) v,vs[j]? = some v → ∃ a us,v = .ref a ∧ KL K a us ∧ IntsAre us (kss.getD j [])
 | [],_,vs,h,hv => by
  cases h
  have := hv.1
  cases vs with
  | nil => exact ⟨rfl,fun j v e => by simp at e⟩
  | cons => simp at this
 | x :: r,kss,vs,h,hv => by
  cases vs with
  | nil => have := hv.1; simp at this
  | cons v vs =>
   have ht : RVs K γ vs r := ⟨(by have := hv.1; simpa using this),fun i a b e f => hv.2 (i + 1) a b (by simpa using e) (by simpa using f)⟩
   have h0 := hv.2 0 v x rfl rfl
   cases x <;> try (cases h; done)
   rename_i ys
   obtain ⟨k,e1,e2⟩ := bS (show (toInts ys >>= fun k => (toRows r).map (k :: ·)) = some kss from h)
   cases e3 : toRows r with
   | none => rw [e3] at e2; cases e2
   | some ks =>
    rw [e3] at e2; cases e2
    obtain ⟨h1,h2⟩ := toRows_get e3 ht
    obtain ⟨a,us,rfl,hk,hl,hall⟩ := h0.fl_inv
    refine ⟨by rw [List.length_cons,List.length_cons,h1],fun j w e => ?_⟩
    cases j with
    | zero => cases e; exact ⟨a,us,rfl,hk,toInts_ok ⟨hl,hall⟩ e1⟩
    | succ j => exact h2 j w e
noncomputable def eqL (a b : AV) (σ : St) : Option Bool := match intsOf a σ,intsOf b σ with
 | some k,some l => some (k == l)
 | _,_ => match a,b with
  | .fl xs,.fl ys => (match toRows xs,toRows ys with | some k,some l => some (k == l) | _,_ => none)
  | _,_ => none
noncomputable def eqX (a b : AV) (σ : St) : Option Bool := match a with
 | .int i => (match b with | .int j => some (i == j) | _ => none)
 | .flt i => (match b with | .int j => some (i == j) | _ => none)
 | .bool p => (match b with | .bool q => some (p == q) | _ => none)
 | .str x => (match b with | .str y => some (x == y) | _ => none)
 | a => eqL a b σ
theorem cmp_int (i j : Int) : compare i j = if i < j then .lt else if i = j then .eq else .gt := rfl
theorem ltF {x : UInt64} {i j : Int} (hx : IsI x i) : (Float64.cmpInt x j == some Ordering.lt) = decide (i < j) := by
 rw [isI_cmpInt hx,cmp_int]
 by_cases h : i < j
 ·simp [h]
 ·rw [if_neg h]; simp only [h,decide_false]; split <;> rfl
theorem gtF {x : UInt64} {i j : Int} (hx : IsI x i) : (Float64.cmpInt x j == some Ordering.gt) = decide (i > j) := by
 rw [isI_cmpInt hx,cmp_int]
 by_cases h : i > j
 ·rw [if_neg (by lia),if_neg (by exact Int.ne_of_gt ‹_›)]; simp [h]
 ·by_cases h2 : i < j
  ·rw [if_pos h2]; simp [h]
  ·rw [if_neg h2,if_pos (by lia)]; simp [h]
theorem of_rcX {prog : Program} {w : World} {A : Around} {E : Value → Shared → Prop} {s : Shared} {a b : Value} {k : Bool} {Q : Value → Shared → Prop} (h : SeqAt.RcAt A s a b k) (hq : Q (.bool k) s) : wpAny (model prog w) A (compareOp .Eq a b) Q E s := h prog w E Q hq
theorem of_rcneX {prog : Program} {w : World} {A : Around} {E : Value → Shared → Prop} {s : Shared} {a b : Value} {k : Bool} {Q : Value → Shared → Prop} (h : SeqAt.RcNeAt A s a b k) (hq : Q (.bool k) s) : wpAny (model prog w) A (compareOp .NotEq a b) Q E s := h prog w E Q hq
noncomputable def EqOk (cx : Cx) (s : Shared) (ca cb : Value) (c : Bool) : Prop := ∀ (Q : Value → Shared → Prop) (E : Value → Shared → Prop),(Q (.bool c) s → wpAny (model prg cx.w) cx.A (compareOp .Eq ca cb) Q E s) ∧ (Q (.bool (!c)) s → wpAny (model prg cx.w) cx.A (compareOp .NotEq ca cb) Q E s)
theorem EqOk.rc {ca cb : Value} {c : Bool} (h : SeqAt.RcAt cx.A s ca cb c ∧ SeqAt.RcNeAt cx.A s ca cb (!c)) : EqOk cx s ca cb c := fun Q E => ⟨fun q => of_rcX h.1 q,fun q => of_rcneX h.2 q⟩
theorem units_low : cx.A.units < cLine := by
 have := cx.hk.2
 have := cx.hlim
 have : cLine = 9900 := rfl
 exact ar6 ‹_› ‹_› ‹_›
set_option tactic.hygienic true in
theorem eqL_ok (R : Rel cx r σ s) {a b : AV} {c : Bool} (h : eqL a b σ = some c) {ca cb : Value} (ra : RV r.K r.γ ca a) (rb : RV r.K r.γ cb b) : EqOk cx s ca cb c := by
 unfold eqL at h
 split at h
 ·rename_i k l e1 e2
  cases h
  obtain ⟨x,vs,rfl,hl,hi⟩ := iO R e1 ra
  obtain ⟨y,us,rfl,hl2,hj⟩ := iO R e2 rb
  exact .rc (rc_ints hl hi hl2 hj units_low)
 ·split at h
  ·split at h
   ·rename_i xs ys k l e1 e2
    cases h
    obtain ⟨x,vs,rfl,hk,hlen,hall⟩ := ra.fl_inv
    obtain ⟨y,us,rfl,hk2,hlen2,hall2⟩ := rb.fl_inv
    obtain ⟨l1,g1⟩ := toRows_get e1 ⟨hlen,hall⟩
    obtain ⟨l2,g2⟩ := toRows_get e2 ⟨hlen2,hall2⟩
    refine .rc (rc_lists (e := fun j => k.getD j [] == l.getD j []) (R.kl hk) (R.kl hk2) units_low (by rw [beq_lists [],l1,l2]) fun j v u h1 h2 => ?_)
    obtain ⟨p,ps,rfl,hp,hpi⟩ := g1 j v h1
    obtain ⟨q,qs,rfl,hq,hqi⟩ := g2 j u h2
    have := W.keq_ints (A := cx.A) (R.kl hp) hpi (R.kl hq) hqi (by have := units_low (cx := cx); have h1 := cx.hk.2; have h2 := cx.hlim; have h3 : cLine = 9900 := rfl; show cx.A.units + 1 + 64 < cLine; exact ar5 ‹_› ‹_› ‹_›)
    rw [show (k.getD j [] == l.getD j []) = decide (k.getD j [] = l.getD j []) from by rw [Bool.eq_iff_iff]; simp]
    exact this
   ·cases h
  ·cases h
set_option tactic.hygienic true in
theorem eqX_ok (R : Rel cx r σ s) {a b : AV} {c : Bool} (h : eqX a b σ = some c) {ca cb : Value} (ra : RV r.K r.γ ca a) (rb : RV r.K r.γ cb b) : EqOk cx s ca cb c := by
 unfold eqX at h
 split at h
 ·refine intM h fun _ eM h => ?_
  subst eM
  cases h
  obtain ⟨t,rfl⟩ := ra.int_inv
  obtain ⟨u,rfl⟩ := rb.int_inv
  exact fun Q E => ⟨fun q => eq_int q,fun q => ne_int q⟩
 ·split at h
  ·rename_i i _ j
   cases h
   obtain ⟨x,t,rfl,hx⟩ := ra.flt_inv
   obtain ⟨u,rfl⟩ := rb.int_inv
   have e : (Float64.cmpInt x j == some Ordering.eq) = (i == j) := by
    rw [isI_cmpInt hx,cmp_int]
    rcases Int.lt_trichotomy i j with h | h | h
    ·rw [if_pos h]; have : i ≠ j := by exact Int.ne_of_lt ‹_›
     simp [this]
    ·subst h; simp
    ·rw [if_neg (by lia),if_neg (by exact Int.ne_of_gt ‹_›)]; have : i ≠ j := by exact Int.ne_of_gt ‹_›
     simp [this]
   have e2 : (Float64.cmpInt x j != some Ordering.eq) = !(i == j) := by unfold bne; rw [e]
   exact fun Q E => ⟨fun q => PyProof.Rows.eq_fi (by rw [e]; exact q),fun q => PyProof.Rows.ne_fi (by rw [e2]; exact q)⟩
  ·cases h
 ·refine boolM h fun _ eM h => ?_
  subst eM
  cases h; obtain rfl := ra.bool_inv; obtain rfl := rb.bool_inv; exact fun Q E => ⟨fun q => PyProof.Rows.eq_bool q,fun q => PyProof.Rows.ne_bool q⟩
 ·refine strM h fun _ eM h => ?_
  subst eM
  cases h
  obtain ⟨t,rfl⟩ := ra.str_inv
  obtain ⟨u,rfl⟩ := rb.str_inv
  exact fun Q E => ⟨fun q => PyProof.Rows.eq_str q,fun q => PyProof.Rows.ne_str q⟩
 ·exact eqL_ok R h ra rb
noncomputable def ltX (a b : AV) : Option Bool := match b with
 | .int j => (match a with | .int i => some (decide (i < j)) | .flt i => some (decide (i < j)) | _ => none)
 | _ => none
noncomputable def gtX (a b : AV) : Option Bool := match b with
 | .int j => (match a with | .int i => some (decide (i > j)) | .flt i => some (decide (i > j)) | _ => none)
 | _ => none
noncomputable def cmpV (op : CmpOp) (a b : AV) (σ : St) : Option Bool := match op with
 | .Eq => eqX a b σ
 | .NotEq => (eqX a b σ).map fun c => !c
 | .Lt => ltX a b
 | .Gt => gtX a b
 | .Is => isV a b
 | .IsNot => (isV a b).map fun c => !c
 | .In => hasV a b σ
 | .NotIn => (match a with
  | .int k => (match b with
   | .ref n => (match σ.heap[n]? with
    | some (.dict kvs,_) => some (!(kvs.lookup k).isSome)
    | _ => (intsOf b σ).map fun ks => !ks.any (· == k))
   | _ => (intsOf b σ).map fun ks => !ks.any (· == k))
  | _ => none)
 | _ => none
theorem intFltM {β : Type} {y : β} {P : Prop} {a : AV} {F G : Int → Option β} (h : (match a with | .int i => F i | .flt i => G i | _ => none) = some y) (k1 : ∀ i,a = .int i → F i = some y → P) (k2 : ∀ i,a = .flt i → G i = some y → P) : P := by
 cases a with
 | int i => exact k1 i rfl h
 | flt i => exact k2 i rfl h
 | _ => exact noneE h
theorem lt_ok {K : Kno} {γ : List Addr} {a b : AV} {c : Bool} {ca cb : Value} {M : World} {A : Around} {Q : Value → Shared → Prop} {E : Value → Shared → Prop} (hc : ltX a b = some c) (ra : RV K γ ca a) (rb : RV K γ cb b) (hq : Q (.bool c) s) : wpAny (model prg M) A (compareOp .Lt ca cb) Q E s := by
 refine intM hc ?_
 clear hc
 intro j eM hc
 subst eM
 obtain ⟨tj,rfl⟩ := rb.int_inv
 refine intFltM hc ?_ ?_
 all_goals clear hc
 ·intro i ea hc
  subst ea
  obtain rfl := Option.some.inj hc
  obtain ⟨ti,rfl⟩ := ra.int_inv
  exact PyProof.Rows.lt_int hq
 ·intro i ea hc
  subst ea
  obtain rfl := Option.some.inj hc
  obtain ⟨x,t,rfl,hx⟩ := ra.flt_inv
  refine PyProof.Rows.lt_fi ?_
  rw [ltF hx]; exact hq
theorem gt_ok {K : Kno} {γ : List Addr} {a b : AV} {c : Bool} {ca cb : Value} {M : World} {A : Around} {Q : Value → Shared → Prop} {E : Value → Shared → Prop} (hc : gtX a b = some c) (ra : RV K γ ca a) (rb : RV K γ cb b) (hq : Q (.bool c) s) : wpAny (model prg M) A (compareOp .Gt ca cb) Q E s := by
 refine intM hc ?_
 clear hc
 intro j eM hc
 subst eM
 obtain ⟨tj,rfl⟩ := rb.int_inv
 refine intFltM hc ?_ ?_
 all_goals clear hc
 ·intro i ea hc
  subst ea
  obtain rfl := Option.some.inj hc
  obtain ⟨ti,rfl⟩ := ra.int_inv
  exact PyProof.Rows.gt_int hq
 ·intro i ea hc
  subst ea
  obtain rfl := Option.some.inj hc
  obtain ⟨x,t,rfl,hx⟩ := ra.flt_inv
  refine PyProof.Rows.gt_fi ?_
  rw [gtF hx]; exact hq
theorem isV_ok {K : Kno} {γ : List Addr} {a b : AV} {d : Bool} {ca cb : Value} (h : isV a b = some d) (ra : RV K γ ca a) (rb : RV K γ cb b) {P : Value → Value → Bool → Prop} (h1 : ∀ x,P (.ref x) .none false) (h2 : P .none .none true) : P ca cb d := by
 refine noneM h ?_
 clear h
 intro eM h
 subst eM
 obtain rfl := rb.none_inv
 split at h
 ·obtain rfl := ra.none_inv
  exact Option.some.inj h ▸ h2
 ·refine ifM h ?_
  clear h
  intro e h
  obtain ⟨x,rfl⟩ := isRef_ok ra e
  exact Option.some.inj h ▸ h1 x
set_option tactic.hygienic true in
theorem notin_ok {a b : AV} {c : Bool} (hc : cmpV .NotIn a b σ = some c) (R : Rel cx r σ s) {ca cb : Value} (ra : RV r.K r.γ ca a) (rb : RV r.K r.γ cb b) {Q : Value → Shared → Prop} {E : Value → Shared → Prop}
  (hq : ∀ s',Go cx r σ s r σ s' → Rel cx r σ s' → Q (.bool c) s') : wpAny (model prg cx.w) cx.A (compareOp .NotIn ca cb) Q E s := by
 refine intM hc ?_
 clear hc
 intro k eM hc
 subst eM
 obtain ⟨ti,rfl⟩ := ra.int_inv
 have hIL : (intsOf b σ).map (fun ks => !ks.any (· == k)) = some c → wpAny (model prg cx.w) cx.A (compareOp .NotIn (.int k ti) cb) Q E s := fun h => by
  refine mapM h ?_
  clear h
  intro ks e e2
  subst e2
  obtain ⟨b,vs,rfl,hl,hi⟩ := iO R e rb
  exact notin_list_ints hl hi (hq _ .refl R)
 split at hc
 ·rename_i n
  split at hc
  ·rename_i kvs kk hh
   obtain rfl := Option.some.inj hc
   obtain ⟨d,rfl,hγ⟩ := rb.ref_inv
   obtain ⟨es,h5,h6⟩ := R.idx hγ hh
   obtain ⟨od,kv,rfl,h7,h8,h9,h10⟩ := h6.dict_inv
   refine kdg_notin (knd := PySem.intKind prg cx.w) (oneN (R.get h5 (.head _))) (.head _) h7 h8 (intKind_is _ _ _ _) _ ?_ (hq _ .same R.tok)
   cases hx : kvs.lookup k with
   | none => rw [(kvs_at h9 h10).2 hx]; rfl
   | some x => obtain ⟨cv,e1,_⟩ := (kvs_at h9 h10).1 x hx; rw [e1]; rfl
  ·exact hIL hc
 ·exact hIL hc
set_option tactic.hygienic true in
theorem cmpV_ok {op : CmpOp} {a b : AV} {c : Bool} (hc : cmpV op a b σ = some c) (R : Rel cx r σ s) {ca cb : Value} (ra : RV r.K r.γ ca a) (rb : RV r.K r.γ cb b) {Q : Value → Shared → Prop} {E : Value → Shared → Prop}
  (hq : ∀ s',Go cx r σ s r σ s' → Rel cx r σ s' → Q (.bool c) s') : wpAny (model prg cx.w) cx.A (compareOp op ca cb) Q E s := by
 cases op with
 | Eq => exact (eqX_ok R hc ra rb Q E).1 (hq _ .refl R)
 | NotEq =>
  obtain ⟨d,e,e2⟩ := Option.map_eq_some_iff.mp hc
  exact (eqX_ok R e ra rb Q E).2 (e2 ▸ hq _ .refl R)
 | Lt => exact lt_ok hc ra rb (hq _ .refl R)
 | Gt => exact gt_ok hc ra rb (hq _ .refl R)
 | Is => exact isV_ok (P := fun ca cb d => Q (.bool d) s → wpAny (model prg cx.w) cx.A (compareOp .Is ca cb) Q E s) hc ra rb (fun x q => is_ref_none q) (fun q => is_none_none q) (hq _ .refl R)
 | IsNot =>
  obtain ⟨d,e,e2⟩ := Option.map_eq_some_iff.mp hc
  exact isV_ok (P := fun ca cb d => Q (.bool (!d)) s → wpAny (model prg cx.w) cx.A (compareOp .IsNot ca cb) Q E s) e ra rb (fun x q => isnot_ref_none q) (fun q => isnot_none_none q) (e2 ▸ hq _ .refl R)
 | In => exact hasV_ok hc R ra rb hq
 | NotIn => exact notin_ok hc R ra rb hq
 | _ => exact noneE hc
end
inductive AF where
 | next | brk | cont | ret (v : AV)
inductive RF (K : Kno) (γ : List Addr) : Flow → AF → Prop
 | next : RF K γ .next .next
 | brk : RF K γ .brk .brk
 | cont : RF K γ .cont .cont
 | ret (v : Value) (x : AV) : RV K γ v x → RF K γ (.ret v) (.ret x)
theorem RF.next_inv {K : Kno} {γ : List Addr} {cf : Flow} (h : RF K γ cf .next) : cf = .next := by cases h; rfl
noncomputable def PF (cx : Cx) (r : Rt) (σ : St) (s : Shared) (v : AF) (σ' : St) (Q : Flow → Shared → Prop) : Prop := ∀ r' s' cf,Go cx r σ s r' σ' s' → Rel cx r' σ' s' → RF r'.K r'.γ cf v → Q cf s'
theorem PF.eq {cx : Cx} {r : Rt} {σ σ1 σ' : St} {s : Shared} {a v : AF} {Q : Flow → Shared → Prop} (h : PF cx r σ s v σ' Q) (e : some (a,σ1) = some (v,σ')) : PF cx r σ s a σ1 Q := by cases e; exact h
structure SS (ns : Sig) (st : Stmt) (f : St → Option (AF × St)) : Prop where
 run : ∀ cx : Cx,cx.sig = ns → ∀ σ v σ',f σ = some (v,σ') → ∀ r s,Rel cx r σ s → ∀ (Q : Flow → Shared → Prop) (E : Value → Shared → Prop),
  PF cx r σ s v σ' Q → wpAny (model prg cx.w) cx.A (exec st cx.env) Q E s
structure SB (ns : Sig) (l : List Stmt) (f : St → Option (AF × St)) : Prop where
 run : ∀ cx : Cx,cx.sig = ns → ∀ σ v σ',f σ = some (v,σ') → ∀ r s,Rel cx r σ s → ∀ (Q : Flow → Shared → Prop) (E : Value → Shared → Prop),
  PF cx r σ s v σ' Q → wpAny (model prg cx.w) cx.A (execs l cx.env) Q E s
noncomputable def setE (k : Nat) (x : AV) (σ : St) : St := { σ with env := σ.env.set k (some x) }
section
variable {ns : Sig} {cx : Cx} {r : Rt} {σ : St} {s : Shared}
theorem sb_none {l : List Stmt} : SB ns l (fun _ => none) := ⟨fun _ _ _ _ _ h => nomatch h⟩
theorem sb_nil : SB ns [] (fun σ => some (.next,σ)) := by
 refine ⟨?_⟩
 intro cx hn σ v σ' hf r s R Q E hq
 replace hq := hq.eq hf
 exact wpAny_execs_nil (hq r s _ .refl R .next)
noncomputable def fSeq (f g : St → Option (AF × St)) (σ : St) : Option (AF × St) := f σ >>= fun p => match p.1 with
 | .next => g p.2
 | .brk => some (.brk,p.2)
 | .cont => some (.cont,p.2)
 | .ret v => some (.ret v,p.2)
theorem sb_cons {st : Stmt} {l : List Stmt} {f g : St → Option (AF × St)} (h1 : SS ns st f) (h2 : SB ns l g) : SB ns (st :: l) (fSeq f g) := by
 refine ⟨?_⟩
 intro cx hn σ v σ' hf r s R Q E hq
 obtain ⟨⟨a,σ1⟩,e1,e2⟩ := bS hf
 refine wpAny_execs_cons (h1.run cx hn _ _ _ e1 r s R _ _ fun r1 s1 cf g1 R1 rf => ?_)
 cases rf with
 | next => exact h2.run cx hn _ _ _ e2 r1 s1 R1 _ _ fun r2 s2 cf g2 R2 rf2 => hq r2 s2 cf (g1.trans g2) R2 rf2
 | brk => cases e2; exact hq r1 s1 _ g1 R1 .brk
 | cont => cases e2; exact hq r1 s1 _ g1 R1 .cont
 | ret w x h => cases e2; exact hq r1 s1 _ g1 R1 (.ret w x h)
theorem ss_break {pos : Pos} : SS ns (.Break pos) (fun σ => some (.brk,σ)) := by
 refine ⟨?_⟩
 intro cx hn σ v σ' hf r s R Q E hq
 replace hq := hq.eq hf
 exact wpAny_Break (hq r s _ .refl R .brk)
theorem ss_continue {pos : Pos} : SS ns (.Continue pos) (fun σ => some (.cont,σ)) := by
 refine ⟨?_⟩
 intro cx hn σ v σ' hf r s R Q E hq
 replace hq := hq.eq hf
 exact wpAny_Continue (hq r s _ .refl R .cont)
theorem ss_return {e : PySem.Expr} {pos : Pos} {f : St → Option (AV × St)} (h : SE ns e f) : SS ns (.Return (some e) pos) (fun σ => f σ >>= fun p => some (.ret p.1,p.2)) := by
 refine ⟨?_⟩
 intro cx hn σ v σ' hf r s R Q E hq
 obtain ⟨⟨a,σ1⟩,e1,e2⟩ := bS hf
 replace hq := hq.eq e2
 exact wpAny_Return_some (h.run cx hn _ _ _ e1 r s R _ _ fun r1 s1 cv g1 R1 rv => hq r1 s1 _ g1 R1 (.ret _ _ rv))
theorem ss_expr {e : PySem.Expr} {pos : Pos} {f : St → Option (AV × St)} (h : SE ns e f) (h1 : ∀ env : Env,env.scope.kind = .function → interactive env = false) (h2 : ∀ env,swapsWith e none pos.line env = pure false) :
  SS ns (.Expr e pos) (fun σ => f σ >>= fun p => some (.next,p.2)) := by
 refine ⟨?_⟩
 intro cx hn σ v σ' hf r s R Q E hq
 obtain ⟨⟨a,σ1⟩,e1,e2⟩ := bS hf
 replace hq := hq.eq e2
 exact wpAny_Expr_any (h.run cx hn _ _ _ e1 r s R _ _ fun r1 s1 cv g1 R1 rv => hq r1 s1 _ g1 R1 .next) (h1 _ cx.hf) (h2 _)
theorem st_cmp {l c : PySem.Expr} {op : CmpOp} {pos : Pos} {fl fc : St → Option (AV × St)} (hl : SE ns l fl) (hc : SE ns c fc) (hb : behindInMarks op c = false) :
  ST ns (.Compare l [op] [c] pos) (fun σ => fl σ >>= fun p => fc p.2 >>= fun q => (cmpV op p.1 q.1 q.2).map fun b => (b,q.2)) := by
 refine ⟨?_⟩
 intro cx hn σ v σ' hf r s R Q E hq
 obtain ⟨⟨a,σ1⟩,h1,h2⟩ := bS hf
 obtain ⟨⟨b,σ2⟩,h3,h4⟩ := bS h2
 refine wpAny_isTrue_Compare1 (hl.run cx hn _ _ _ h1 r s R _ _ fun r1 s1 ca g1 R1 ra => hc.run cx hn _ _ _ h3 r1 s1 R1 _ _ fun r2 s2 cb g2 R2 rb => ?_) hb
 cases e : cmpV op a b σ2 with
 | none => rw [e] at h4; cases h4
 | some c =>
  rw [e] at h4; replace hq := hq.eq h4
  exact cmpV_ok e R2 (ra.later g2.toLater) rb fun s3 g3 R3 => wpAny_truthy_bool (hq r2 s3 ((g1.trans g2).trans g3) R3)
theorem ss_if {t : PySem.Expr} {b o : List Stmt} {pos : Pos} {ft : St → Option (Bool × St)} {fb fo : St → Option (AF × St)} (ht : ST ns t ft) (hb : SB ns b fb) (ho : SB ns o fo) :
  SS ns (.If t b o pos) (fun σ => ft σ >>= fun p => if p.1 then fb p.2 else fo p.2) := by
 refine ⟨?_⟩
 intro cx hn σ v σ' hf r s R Q E hq
 obtain ⟨⟨a,σ1⟩,h1,h2⟩ := bS hf
 refine wpAny_If (ht.run cx hn _ _ _ h1 r s R _ _ fun r1 s1 g1 R1 => ?_)
 cases a with
 | true => exact hb.run cx hn _ _ _ h2 r1 s1 R1 _ _ fun r2 s2 cf g2 R2 rf => hq r2 s2 cf (g1.trans g2) R2 rf
 | false => exact ho.run cx hn _ _ _ h2 r1 s1 R1 _ _ fun r2 s2 cf g2 R2 rf => hq r2 s2 cf (g1.trans g2) R2 rf
theorem nodup_get {l : List (Str × NameKind)} (nd : (l.map (·.1)).Nodup) {i j : Nat} {x : Str} {a b : NameKind} (h1 : l[i]? = some (x,a)) (h2 : l[j]? = some (x,b)) : i = j := by
 have e1 : (l.map (·.1))[i]? = some x := by rw [List.getElem?_map,h1]; rfl
 have e2 : (l.map (·.1))[j]? = some x := by rw [List.getElem?_map,h2]; rfl
 exact (List.getElem?_inj (List.getElem?_eq_some_iff.mp e1).1 nd).mp (e1.trans e2.symm)
theorem Rel.setL (R : Rel cx r σ s) {k : Nat} {x : Str} (hk : cx.names[k]? = some (x,.local)) (hx : cx.names.lookup x = some .local) {v : Value} {av : AV} (rv : RV r.K r.γ v av) {h' : Heap} {tk : Nat}
  (F' : Fr r.K.h0 cx.L h' (fun y => if y = x then some v else r.m y)) (N' : News r.K.h0 cx.L h' (r.mu cx ++ (r.K.fz ++ r.it))) :
  Rel cx { r with m := fun y => if y = x then some v else r.m y } (setE k av σ) { s with heap := h',toks := tk } ∧ Go cx r σ s { r with m := fun y => if y = x then some v else r.m y } (setE k av σ) { s with heap := h',toks := tk } := by
 refine ⟨⟨⟨R.nd,R.dj,R.di,R.pl,R.lv,R.G,R.kh,?_,R.len,R.H,R.cc⟩,F',N'⟩,⟨.refl,⟨[],(List.append_nil _).symm⟩,cx.tr _⟩,⟨fun j ao n h => ⟨ao,n,h,Nat.le_refl _,fun _ => rfl⟩,rfl,rfl⟩,cx.sS ..,fun _ => ⟨rfl,rfl⟩⟩
 intro j w e
 have e' : (σ.env.set k (some av))[j]? = some (some w) := e
 rw [List.getElem?_set] at e'
 by_cases hj : k = j
 ·subst hj
  rw [if_pos rfl] at e'
  split at e'
  ·cases e'
   exact ⟨x,.local,v,hk,hx,.inl ⟨rfl,if_pos rfl⟩,rv⟩
  ·cases e'
 ·rw [if_neg hj] at e'
  obtain ⟨x',kd,v',h1,h2,h3,h4⟩ := R.E j w e'
  refine ⟨x',kd,v',h1,h2,?_,h4⟩
  rcases h3 with ⟨rfl,hm⟩ | h3
  ·exact .inl ⟨rfl,by show (if x' = x then _ else _) = _; rw [if_neg (fun q => hj (nodup_get cx.ndn hk (q ▸ h1)))]; exact hm⟩
  ·exact .inr h3
theorem store_ok (R : Rel cx r σ s) {k : Nat} {x : Str} (hk : cx.names[k]? = some (x,.local)) (hx : cx.names.lookup x = some .local) {v : Value} {av : AV} (rv : RV r.K r.γ v av) {Q : Unit → Shared → Prop} {E : Value → Shared → Prop}
  (hq : ∀ r' s',Go cx r σ s r' (setE k av σ) s' → Rel cx r' (setE k av σ) s' → r'.K = r.K → r'.γ = r.γ → Q () s') : wpAny (model prg cx.w) cx.A (storeName cx.env x v) Q E s := by
 refine stL R.Fe R.Ne (fun h' F' N' => ?_) cx.hf hx
 rw [cx.hL] at F' N'
 obtain ⟨R',g'⟩ := R.setL hk hx rv F' N' (tk := s.toks + 1)
 exact hq _ _ g' R' rfl rfl
theorem sAs {e : PySem.Expr} {x : Str} {k : Nat} {pos' pos : Pos} {f : St → Option (AV × St)} (h : SE ns e f) (hk : ns.names[k]? = some (x,.local)) (hx : ns.names.lookup x = some .local) (hs : ∀ env,swapsWith e (some (.Name x pos')) pos.line env = pure false) :
  SS ns (.Assign [.Name x pos'] e pos) (fun σ => f σ >>= fun p => some (.next,setE k p.1 p.2)) := by
 refine ⟨?_⟩
 intro cx hn σ v σ' hf r s R Q E hq
 obtain ⟨⟨a,σ1⟩,e1,e2⟩ := bS hf
 replace hq := hq.eq e2
 refine wpAny_Assign_Name (h.run cx hn _ _ _ e1 r s R _ _ fun r1 s1 cv g1 R1 rv => ?_) (hs _)
 exact store_ok R1 (by rw [nO hn]; exact hk) (by rw [nO hn]; exact hx) rv fun r2 s2 g2 R2 _ _ => hq r2 s2 _ (g1.trans g2) R2 .next
theorem se_walrus {e : PySem.Expr} {x : Str} {k : Nat} {pos' pos : Pos} {f : St → Option (AV × St)} (h : SE ns e f) (hk : ns.names[k]? = some (x,.local)) (hx : ns.names.lookup x = some .local) :
  SE ns (.NamedExpr (.Name x pos') e pos) (fun σ => f σ >>= fun p => some (p.1,setE k p.1 p.2)) := by
 refine ⟨?_⟩
 intro cx hn σ v σ' hf r s R Q E hq
 obtain ⟨⟨a,σ1⟩,e1,e2⟩ := bS hf
 replace hq := hq.eq e2
 refine wpAny_NamedExpr (h.run cx hn _ _ _ e1 r s R _ _ fun r1 s1 cv g1 R1 rv => wpAny_assign_Name ?_)
 exact store_ok R1 (by rw [nO hn]; exact hk) (by rw [nO hn]; exact hx) rv fun r2 s2 g2 R2 eK eγ => hq r2 s2 _ (g1.trans g2) R2 (by rw [eK,eγ]; exact rv)
theorem ss_assign_attr {o e : PySem.Expr} {pos' pos : Pos} {fo f : St → Option (AV × St)} (fd : Fld) (h : SE ns e f) (ho : SE ns o fo) (ht : ns.tm = true) (hs : ∀ env,swapsWith e (some (.Attribute o fd.nm pos')) pos.line env = pure false) :
  SS ns (.Assign [.Attribute o fd.nm pos'] e pos) (fun σ => f σ >>= fun p => fo p.2 >>= fun q => (setF fd q.1 p.1 q.2).map fun σ' => (.next,σ')) := by
 refine ⟨?_⟩
 intro cx hn σ v σ' hf r s R Q E hq
 obtain ⟨⟨a,σ1⟩,e1,e2⟩ := bS hf
 obtain ⟨⟨b,σ2⟩,e3,e4⟩ := bS e2
 refine plainObj_wpAny_Assign_Attribute (h.run cx hn _ _ _ e1 r s R _ _ fun r1 s1 cv g1 R1 rv => ho.run cx hn _ _ _ e3 r1 s1 R1 _ _ fun r2 s2 co g2 R2 ro => ?_) (hs _)
 cases e : setF fd b a σ2 with
 | none => rw [e] at e4; cases e4
 | some σ3 =>
  rw [e] at e4; replace hq := hq.eq e4
  exact setF_ok (tmOf hn ht) e R2 ro (rv.later g2.toLater) fun r3 s3 g3 R3 => hq r3 s3 _ ((g1.trans g2).trans g3) R3 .next
noncomputable def inV (op : Operator) (a b : AV) : Option AV := match op,a,b with
 | .Add,.int i,.int j => some (.int (i + j))
 | .Sub,.int i,.int j => some (.int (i - j))
 | _,_,_ => none
theorem inV_E {op : Operator} {a b x : AV} {P : Operator → AV → Prop} (h : inV op a b = some x) (k1 : ∀ i j,a = .int i → b = .int j → P .Add (.int (i + j))) (k2 : ∀ i j,a = .int i → b = .int j → P .Sub (.int (i - j))) : P op x := by
 cases op with
 | Add =>
  cases a with
  | int i =>
   cases b with
   | int j => exact Option.some.inj h ▸ k1 i j rfl rfl
   | _ => exact noneE h
  | _ => exact noneE h
 | Sub =>
  cases a with
  | int i =>
   cases b with
   | int j => exact Option.some.inj h ▸ k2 i j rfl rfl
   | _ => exact noneE h
  | _ => exact noneE h
 | _ => exact noneE h
theorem inV_ok {op : Operator} {a b x : AV} (hc : inV op a b = some x) (R : Rel cx r σ s) {ca cb : Value} (ra : RV r.K r.γ ca a) (rb : RV r.K r.γ cb b) {Q : Value → Shared → Prop} {E : Value → Shared → Prop}
  (hq : ∀ s' cx',Go cx r σ s r σ s' → Rel cx r σ s' → RV r.K r.γ cx' x → Q cx' s') : wpAny (model prg cx.w) cx.A (inplaceOp op ca cb) Q E s := by
 refine inV_E (P := fun op x => (∀ s' cx',Go cx r σ s r σ s' → Rel cx r σ s' → RV r.K r.γ cx' x → Q cx' s') → wpAny (model prg cx.w) cx.A (inplaceOp op ca cb) Q E s) hc (fun i j ea eb => ?_) (fun i j ea eb => ?_) hq
 ·subst ea eb
  obtain ⟨t,rfl⟩ := ra.int_inv
  obtain ⟨u,rfl⟩ := rb.int_inv
  exact fun hq => iadd_int (hq _ _ .same R.tok (.int _ _))
 ·subst ea eb
  obtain ⟨t,rfl⟩ := ra.int_inv
  obtain ⟨u,rfl⟩ := rb.int_inv
  exact fun hq => isub_int (hq _ _ .same R.tok (.int _ _))
theorem ss_aug_attr {o e : PySem.Expr} {op : Operator} {tpos pos : Pos} {fo f : St → Option (AV × St)} (fd : Fld) (ho : SE ns o fo) (h : SE ns e f) (ht : ns.tm = true) :
  SS ns (.AugAssign (.Attribute o fd.nm tpos) op e pos) (fun σ => fo σ >>= fun p => getF fd p.1 p.2 >>= fun q => f q.2 >>= fun t => inV op q.1 t.1 >>= fun x => (setF fd p.1 x t.2).map fun σ' => (.next,σ')) := by
 refine ⟨?_⟩
 intro cx hn σ v σ' hf r s R Q E hq
 obtain ⟨⟨a,σ1⟩,e1,e2⟩ := bS hf
 obtain ⟨⟨b,σ2⟩,e3,e4⟩ := bS e2
 obtain ⟨⟨c,σ3⟩,e5,e6⟩ := bS e4
 obtain ⟨x,e7,e8⟩ := bS e6
 refine wpAny_AugAssign_AttributeAny (ho.run cx hn _ _ _ e1 r s R _ _ fun r1 s1 co g1 R1 ro => getF_ok e3 R1 ro fun s2 cb g2 R2 rb => h.run cx hn _ _ _ e5 r1 s2 R2 _ _ fun r3 s3 cc g3 R3 rc => ?_)
 refine inV_ok e7 R3 (rb.later g3.toLater) rc fun s4 cxx g4 R4 rx => ?_
 cases e : setF fd a x σ3 with
 | none => dsimp only at e8; rw [e] at e8; cases e8
 | some σ4 =>
  dsimp only at e8
  rw [e] at e8; replace hq := hq.eq e8
  exact setF_ok (tmOf hn ht) e R4 ((ro.later g2.toLater).later g3.toLater) rx fun r5 s5 g5 R5 => hq r5 s5 _ ((((g1.trans g2).trans g3).trans g4).trans g5) R5 .next
end
structure AS (ns : Sig) (t : PySem.Expr) (f : AV → St → Option St) : Prop where
 run : ∀ cx : Cx,cx.sig = ns → ∀ σ x σ',f x σ = some σ' → ∀ r s v,Rel cx r σ s → RV r.K r.γ v x → ∀ (Q : Unit → Shared → Prop) (E : Value → Shared → Prop),
  PU cx r σ s σ' Q → wpAny (model prg cx.w) cx.A (assign t cx.env v) Q E s
theorem rep_ne_mem {D : Addr} {o' : Obj} {l : Led} {p : Addr × Obj} (h : p ∈ l) (e : p.1 ≠ D) : p ∈ rep D o' l := List.mem_map.mpr ⟨p,h,if_neg e⟩
theorem rep_eq_mem {D : Addr} {o o' : Obj} {l : Led} (h : (D,o) ∈ l) : (D,o') ∈ rep D o' l := List.mem_map.mpr ⟨_,h,if_pos rfl⟩
theorem of_rep {D : Addr} {o' : Obj} {l : Led} {p : Addr × Obj} (h : p ∈ rep D o' l) : p = (D,o') ∨ (p ∈ l ∧ p.1 ≠ D) := by
 obtain ⟨q,hq,e⟩ := List.mem_map.mp h
 by_cases c : q.1 = D
 ·rw [if_pos c] at e; exact .inl e.symm
 ·rw [if_neg c] at e; subst e; exact .inr ⟨hq,c⟩
section
variable {ns : Sig} {cx : Cx} {r : Rt} {σ : St} {s : Shared}
theorem storeC_ok (R : Rel cx r σ s) {k : Nat} {x : Str} {c : Addr} (hk : cx.names[k]? = some (x,.cell)) (hx : cx.names.lookup x = some .cell) (hown : (x,c) ∈ cx.own) {v : Value} {av : AV} (rv : RV r.K r.γ v av) {Q : Unit → Shared → Prop} {E : Value → Shared → Prop}
  (hq : PU cx r σ s (setE k av σ) Q) : wpAny (model prg cx.w) cx.A (storeName cx.env x v) Q E s := by
 obtain ⟨o,v0,hm,hd⟩ := R.cc _ hown
 have z := R.N (c,o) (mL _ (cs_mu hm))
 refine wpAny_storeName_cell cx.hf hx (cx.oc _ hown) ⟨o,z.1,hd⟩ fun h' hv hs => ?_
 obtain ⟨o',ho',hd'⟩ := hv
 have nd := R.nd
 have fst : (Rt.mu { r with cs := rep c o' r.cs } cx).map (·.1) = (r.mu cx).map (·.1) := by
  unfold Rt.mu
  split
  ·rw [List.map_append,List.map_append]; show (rep c o' r.cs).map (·.1) ++ _ = _; rw [rep_fst]; rfl
  ·exact rep_fst
 have key : ∀ p ∈ Rt.mu { r with cs := rep c o' r.cs } cx,p = (c,o') ∨ (p ∈ r.mu cx ∧ p.1 ≠ c) := fun p hp => by
  unfold Rt.mu at hp nd ⊢
  split at hp
  ·rename_i tm
   rw [if_pos tm] at nd ⊢
   rcases mA hp with hp | hp
   ·rcases of_rep hp with h | ⟨h1,h2⟩
    ·exact .inl h
    ·exact .inr ⟨mL _ h1,h2⟩
   ·refine .inr ⟨mR _ hp,fun e => ?_⟩
    rw [List.map_append,List.nodup_append] at nd
    exact nd.2.2 _ (List.mem_map_of_mem hm) _ (List.mem_map_of_mem hp) e.symm
  ·rename_i tm
   rw [if_neg tm]
   exact of_rep hp
 refine hq { r with cs := rep c o' r.cs } _ ⟨⟨.refl,⟨[],(List.append_nil _).symm⟩,cx.tr _⟩,⟨fun j ao n h => ⟨ao,n,h,Nat.le_refl _,fun _ => rfl⟩,rfl,rep_fst⟩,cx.sS s h' s.toks,fun _ => ⟨rfl,rfl⟩⟩ ⟨⟨by rw [fst]; exact R.nd,fun p hp q hq => ?_,R.di,R.pl,R.lv,R.G,R.kh,fun j w e => ?_,R.len,R.H,fun q hq => ?_⟩,R.F.change hs z.2.1 z.2.2,fun p hp => ?_⟩
 ·have : p.1 ∈ (r.mu cx).map (·.1) := by rw [← fst]; exact List.mem_map_of_mem hp
  obtain ⟨p',h1,h2⟩ := List.mem_map.mp this
  rw [← h2]
  exact R.dj _ h1 q hq
 ·have e' : (σ.env.set k (some av))[j]? = some (some w) := e
  rw [List.getElem?_set] at e'
  by_cases hj : k = j
  ·subst hj
   rw [if_pos rfl] at e'
   split at e'
   ·cases e'
    exact ⟨x,.cell,v,hk,hx,.inr ⟨rfl,c,o',cx.oc _ hown,.inl (rep_eq_mem hm),hd'⟩,rv⟩
   ·cases e'
  ·rw [if_neg hj] at e'
   obtain ⟨x',kd,v',h1,h2,h3,h4⟩ := R.E j w e'
   refine ⟨x',kd,v',h1,h2,?_,h4⟩
   rcases h3 with h3 | ⟨rfl,c2,o2,g1,g2,g3⟩
   ·exact .inl h3
   ·refine .inr ⟨rfl,c2,o2,g1,?_,g3⟩
    rcases g2 with g2 | g2
    ·refine .inl (rep_ne_mem g2 fun e2 => ?_)
     have e2 : c2 = c := e2
     subst e2
     have := cx.oi x' x c2 h2 g1 hown
     subst this
     exact hj (nodup_get cx.ndn hk h1)
    ·exact .inr g2
 ·obtain ⟨o2,v2,h1,h2⟩ := R.cc q hq
  by_cases e : q.2 = c
  ·exact ⟨o',some v,by rw [e]; exact rep_eq_mem hm,hd'⟩
  ·exact ⟨o2,v2,rep_ne_mem h1 e,h2⟩
 ·have other : ∀ p ∈ r.mu cx ++ (r.K.fz ++ r.it),p.1 ≠ c → h'.get? p.1 = some p.2 ∧ p.1 ≠ cx.L ∧ r.K.h0.get? p.1 = none := fun p hp e => by
   have q := R.N p hp
   exact ⟨(hs.2 _ e).trans q.1,q.2⟩
  rcases mA hp with hp | hp
  ·rcases key p hp with rfl | ⟨h1,h2⟩
   ·exact ⟨ho',z.2⟩
   ·exact other p (mL _ h1) h2
  ·exact other p (mR _ hp) fun e => R.dj _ (cs_mu hm) p hp e.symm
end
section
variable {ns : Sig} {cx : Cx} {r : Rt} {σ : St} {s : Shared}
theorem as_name {x : Str} {px : Pos} {k : Nat} (hk : ns.names[k]? = some (x,.local)) (hx : ns.names.lookup x = some .local) : AS ns (.Name x px) (fun v σ => some (setE k v σ)) := by
 refine ⟨?_⟩
 intro cx hn σ x σ' hf r s v R rv Q E hq
 replace hq := hq.eq hf
 exact PyProof.Rows.assign_Name (store_ok R (by rw [nO hn]; exact hk) (by rw [nO hn]; exact hx) rv fun r2 s2 g2 R2 _ _ => hq r2 s2 g2 R2)
theorem ownOf_sig {x : Str} (hn : cx.sig = ns) (h : ns.own.contains x = true) : ∃ c,(x,c) ∈ cx.own := by
 rw [← hn] at h
 have : x ∈ cx.own.map (·.1) := List.contains_iff_mem.mp h
 obtain ⟨q,hq,e⟩ := List.mem_map.mp this
 exact ⟨q.2,by rw [← e]; exact hq⟩
theorem as_cell {x : Str} {px : Pos} {k : Nat} (hk : ns.names[k]? = some (x,.cell)) (hx : ns.names.lookup x = some .cell) (ho : ns.own.contains x = true) : AS ns (.Name x px) (fun v σ => some (setE k v σ)) := by
 refine ⟨?_⟩
 intro cx hn σ x σ' hf r s v R rv Q E hq
 replace hq := hq.eq hf
 obtain ⟨c,hc⟩ := ownOf_sig hn ho
 exact PyProof.Rows.assign_Name (storeC_ok R (by rw [nO hn]; exact hk) (by rw [nO hn]; exact hx) hc rv hq)
theorem sAC {e : PySem.Expr} {x : Str} {k : Nat} {pos' pos : Pos} {f : St → Option (AV × St)} (h : SE ns e f) (hk : ns.names[k]? = some (x,.cell)) (hx : ns.names.lookup x = some .cell) (ho : ns.own.contains x = true) (hs : ∀ env,swapsWith e (some (.Name x pos')) pos.line env = pure false) :
  SS ns (.Assign [.Name x pos'] e pos) (fun σ => f σ >>= fun p => some (.next,setE k p.1 p.2)) := by
 refine ⟨?_⟩
 intro cx hn σ v σ' hf r s R Q E hq
 obtain ⟨⟨a,σ1⟩,e1,e2⟩ := bS hf
 replace hq := hq.eq e2
 obtain ⟨c,hc⟩ := ownOf_sig hn ho
 refine wpAny_Assign_Name (h.run cx hn _ _ _ e1 r s R _ _ fun r1 s1 cv g1 R1 rv => ?_) (hs _)
 exact storeC_ok R1 (by rw [nO hn]; exact hk) (by rw [nO hn]; exact hx) hc rv fun r2 s2 g2 R2 => hq r2 s2 _ (g1.trans g2) R2 .next
end
noncomputable def forS (ta : AV → St → Option St) (fb : St → Option (AF × St)) (chk : St → Bool) : List AV → St → Option (AF × St)
 | [],σ => some (.next,σ)
 | x :: xs,σ => ta x σ >>= fun σ0 => fb σ0 >>= fun p => match p.1 with
  | .next => if chk p.2 then forS ta fb chk xs p.2 else none
  | .cont => if chk p.2 then forS ta fb chk xs p.2 else none
  | .brk => some (.next,p.2)
  | .ret v => some (.ret v,p.2)
section
variable {ns : Sig} {cx : Cx} {r : Rt} {σ : St} {s : Shared}
theorem Rel.hold (R : Rel cx r σ s) {I : Addr} {io : Obj} {h' : Heap} {tk : Nat} (hI : I ≠ cx.L) (h0 : r.K.h0.get? I = none) (hfr : ∀ p ∈ r.mu cx ++ (r.K.fz ++ r.it),p.1 ≠ I) (hk : ∀ b o,b ≠ I → s.heap.get? b = some o → h'.get? b = some o) (hio : h'.get? I = some io) :
  Rel cx { r with it := (I,io) :: r.it } σ { s with heap := h',toks := tk } := by
 refine ⟨⟨R.nd,?_,?_,R.pl,R.lv,R.G,R.kh,R.E,R.len,R.H,R.cc⟩,?_,?_⟩
 ·intro p hp q hq
  rcases mA hq with h | h
  ·exact R.dj p hp q (mL _ h)
  ·rcases List.mem_cons.mp h with rfl | h
   ·exact hfr p (mL _ hp)
   ·exact R.dj p hp q (mR _ h)
 ·intro p hp q hq
  rcases List.mem_cons.mp hq with rfl | h
  ·exact hfr p (mR _ (mL _ hp))
  ·exact R.di p hp q h
 ·exact ⟨R.F.ns.at' fun o e => hk _ o (Ne.symm hI) e,fun b o e => hk b o (fun q => by rw [q,h0] at e; cases e) (R.F.keep b o e),R.F.above⟩
 ·intro p hp
  have old : ∀ p ∈ r.mu cx ++ (r.K.fz ++ r.it),h'.get? p.1 = some p.2 ∧ p.1 ≠ cx.L ∧ r.K.h0.get? p.1 = none := fun p hp => ⟨hk _ _ (hfr p hp) (R.N p hp).1,(R.N p hp).2⟩
  rcases mA hp with h | h
  ·exact old p (mL _ h)
  ·rcases mA h with h | h
   ·exact old p (mR _ (mL _ h))
   ·rcases List.mem_cons.mp h with rfl | h
    ·exact ⟨hio,hI,h0⟩
    ·exact old p (mR _ (mR _ h))
theorem Rel.drop {it : Led} {I : Addr} {io : Obj} (R : Rel cx { r with it := (I,io) :: it } σ s) (hfr : ∀ p ∈ it,p.1 ≠ I) :
  Rel cx { r with it := it } σ s ∧ s.heap.get? I = some io ∧ I ≠ cx.L ∧ r.K.h0.get? I = none ∧ (∀ p ∈ Rt.mu { r with it := it } cx ++ (r.K.fz ++ it),p.1 ≠ I) := by
 have z := R.N (I,io) (mR _ (mR _ (.head _)))
 have sub : ∀ p ∈ Rt.mu { r with it := it } cx ++ (r.K.fz ++ it),p ∈ Rt.mu { r with it := (I,io) :: it } cx ++ (r.K.fz ++ (I,io) :: it) := fun p hp => by
  rcases mA hp with h | h
  ·exact mL _ h
  ·rcases mA h with h | h
   ·exact mR _ (mL _ h)
   ·exact mR _ (mR _ (.tail _ h))
 refine ⟨⟨⟨R.nd,fun p hp q hq => R.dj p hp q ?_,fun p hp q hq => R.di p hp q (.tail _ hq),R.pl,R.lv,R.G,R.kh,R.E,R.len,R.H,R.cc⟩,R.F,fun p hp => R.N p (sub p hp)⟩,z.1,z.2.1,z.2.2,fun p hp => ?_⟩
 ·rcases mA hq with h | h
  ·exact mL _ h
  ·exact mR _ (.tail _ h)
 ·rcases mA hp with h | h
  ·exact R.dj p h (I,io) (mR _ (.head _))
  ·rcases mA h with h | h
   ·exact R.di p h (I,io) (.head _)
   ·exact hfr p h
theorem Go.reit {it it' : Led} {r' : Rt} {σ' : St} {s' : Shared} (g : Go cx { r with it := it } σ s r' σ' s') : Go cx { r with it := it' } σ s { r' with it := it' } σ' s' :=
 ⟨⟨g.K,g.γ,g.tn⟩,⟨g.ver,rfl,g.cs⟩,g.S,g.os⟩
inductive WaI (cx : Cx) (r : Rt) (σ : St) (s : Shared) (I : Addr) (St' : Nat → Heap → Prop) (ta : AV → St → Option St) (fb : St → Option (AF × St)) (chk : St → Bool) (xs : List AV) (af : AF) (σ' : St) (j : Nat) (s' : Shared) : Prop
 | mk (r' : Rt) (σ1 : St) (i : Nat) : Rel cx r' σ1 s' → Go cx r σ s r' σ1 s' → r'.K.h0.get? I = none → (∀ p ∈ r'.mu cx ++ (r'.K.fz ++ r'.it),p.1 ≠ I) → St' i s'.heap → chk σ1 = true → forS ta fb chk (xs.drop i) σ1 = some (af,σ') → i ≤ xs.length → j = xs.length + 1 - i → WaI cx r σ s I St' ta fb chk xs af σ' j s'
theorem for_walk {tgt : PySem.Expr} {ta : AV → St → Option St} {body : List Stmt} {fb : St → Option (AF × St)} {chk : St → Bool} {xs : List AV} {I : Addr} {fp : List Addr} {P : Nat → Value → Prop} {St' : Nat → Heap → Prop}
  (hb : SB cx.sig body fb) (hta : AS cx.sig tgt ta) (hlo : ∀ i v (s : Shared) (Q : Unit → Shared → Prop) (E : Value → Shared → Prop),P i v → St' (i + 1) s.heap → Q () s → wpAny (model prg cx.w) cx.A (letOwnedTupleGo tgt (.ref I) v) Q E s)
  (W : Walks prg cx.w cx.A I fp [I] xs.length P St') (hP : ∀ i v,i < xs.length → P i v → ∃ y,xs[i]? = some y ∧ RV r.K r.γ v y) (R : Rel cx r σ s) (hI : I ≠ cx.L) (h0 : r.K.h0.get? I = none) (hfr : ∀ p ∈ r.mu cx ++ (r.K.fz ++ r.it),p.1 ≠ I) (hst : St' 0 s.heap)
  (hlive : ∀ i h,St' i h → ∃ o,h.get? I = some o) (hchk : chk σ = true)
  (hfp : ∀ i r' σ' s' h,Rel cx r' σ' s' → Go cx r σ s r' σ' s' → chk σ' = true → St' i h → h.get? I = s'.heap.get? I → St' i s'.heap)
  {af : AF} {σ' : St} (hf : forS ta fb chk xs σ = some (af,σ')) {Q : Flow → Shared → Prop} {E : Value → Shared → Prop}
  (hq : PF cx r σ s af σ' Q) :
  codeAny (model prg cx.w) cx.A (.forLoop tgt (.ref I) body [] cx.env) (fun r s' => match r with | .ok f => Q f s' | .error e => cameBackBy (model prg cx.w) cx.A cx.env E e s') s := by
 refine codeAny_forLoop_any
  (WaI cx r σ s I St' ta fb chk xs af σ') ?_ (xs.length + 1)
  ⟨r,σ,0,R,.refl,h0,hfr,hst,hchk,hf,Nat.zero_le _,rfl⟩
 rintro j s' ⟨r',σ1,i,R1,g1,h01,hfr1,hst1,hchk1,hf1,hi,rfl⟩
 by_cases hlt : i < xs.length
 ·refine W.item i _ _ _ hlt hst1 fun v h₁ tk₁ hPv hst₁ hk₁ => ?_
  refine hide fun g hg => ?_
  obtain ⟨y,hy,hry⟩ := hP i v hlt hPv
  obtain ⟨io,hio⟩ := hlive _ _ hst₁
  have ne : ∀ b,b ≠ I → b ∉ [I] := fun b h q => h (List.mem_singleton.mp q)
  have R2 := R1.hold (tk := tk₁) hI h01 hfr1 (fun b o hb e => hk₁ b o (ne b hb) e) hio
  have hd : xs.drop i = y :: xs.drop (i + 1) := by
   rw [List.drop_eq_getElem_cons hlt]
   rw [List.getElem?_eq_getElem hlt] at hy
   cases hy; rfl
  rw [hd] at hf1
  obtain ⟨σ0,e0,hf1⟩ := bS hf1
  obtain ⟨⟨a,σ2⟩,e1,e2⟩ := bS hf1
  refine hg ?_
  clear hg g
  refine hlo i v _ _ _ hPv hst₁ ?_
  have hry2 : RV r'.K r'.γ v y := hry.later g1.toLater
  refine hta.run cx rfl _ _ _ e0 _ _ v R2 hry2 _ _ fun r3 s3 g3 R3 => ?_
  refine hb.run cx rfl _ _ _ e1 r3 s3 R3 _ _ fun r4 s4 cf g4 R4 rf => hide fun g hg => ?_
  have g34 := (g3.trans g4)
  have hit : r4.it = (I,io) :: r'.it := g34.it
  have hr4 : r4 = { r4 with it := (I,io) :: r'.it } := by rw [← hit]
  rw [hr4] at R4
  obtain ⟨R5,h5,_,h6,h7⟩ := R4.drop (fun p hp => hfr1 p (mR _ (mR _ hp)))
  have g5 : Go cx r' σ1 s' { r4 with it := r'.it } σ2 s4 := by
   have q := g34.reit (it' := r'.it) (r := r') (it := (I,io) :: r'.it)
   exact ⟨⟨q.K,q.γ,q.tn⟩,⟨q.ver,rfl,q.cs⟩,cx.sT _ _ _ (cx.sS s' h₁ tk₁) q.S,q.os⟩
  have g15 := g1.trans g5
  have st : chk σ2 = true → St' (i + 1) s4.heap := fun c => hfp (i + 1) _ σ2 s4 h₁ R5 g15 c hst₁ (hio.trans h5.symm)
  have fin : chk σ2 = true → forS ta fb chk (xs.drop (i + 1)) σ2 = some (af,σ') → ∃ m,m < xs.length + 1 - i ∧ WaI cx r σ s I St' ta fb chk xs af σ' m s4 := fun c hf2 =>
   ⟨xs.length + 1 - (i + 1),by exact ar1 ‹_›,_,σ2,i + 1,R5,g15,h6,h7,st c,c,hf2,hlt,rfl⟩
  refine hg ?_
  clear hg g
  cases rf with
  | next =>
   refine ifM e2 fun _ e2 => ?_
   exact fin (by assumption) e2
  | cont =>
   refine ifM e2 fun _ e2 => ?_
   exact fin (by assumption) e2
  | brk => cases e2; exact hq _ s4 _ g15 R5 .next
  | ret w x h => cases e2; exact hq _ s4 _ g15 R5 (.ret w x h)
 ·have hin : i = xs.length := by lia
  subst hin
  rw [List.drop_length] at hf1
  cases hf1
  refine W.done _ _ _ hst1 fun h₁ tk₁ hk₁ => wpAny_execs_nil ?_
  have ne : ∀ b,b ≠ I → b ∉ [I] := fun b h q => h (List.mem_singleton.mp q)
  have R2 : Rel cx r' σ' { s' with heap := h₁,toks := tk₁ } := by
   refine ⟨R1.toRelP,⟨R1.F.ns.at' fun o e => hk₁ _ o (ne _ (Ne.symm hI)) e,fun b o e => hk₁ b o (ne _ fun q => by rw [q,h01] at e; cases e) (R1.F.keep b o e),R1.F.above⟩,fun p hp => ⟨hk₁ _ _ (ne _ (hfr1 p hp)) (R1.N p hp).1,(R1.N p hp).2⟩⟩
  exact hq r' _ _ (g1.trans .same) R2 .next
end
noncomputable def verAt (n : Nat) (k : Nat) (σ : St) : Bool := match σ.heap[n]? with
 | some (_,j) => j == k
 | none => false
noncomputable def itemsOf (v : AV) (σ : St) : Option (List AV × (St → Bool)) := match v with
 | .fl xs => some (xs,fun _ => true)
 | .tp xs => some (xs,fun _ => true)
 | .ref n => (match σ.heap[n]? with
  | some (.list xs,k) => some (xs,verAt n k)
  | some (.dict kvs,k) => some (kvs.map fun p => .int p.1,verAt n k)
  | _ => none)
 | _ => none
section
variable {ns : Sig} {cx : Cx} {r : Rt} {σ : St} {s : Shared}
theorem Rel.fresh (R : Rel cx r σ s) : s.heap.objs.size ≠ cx.L ∧ r.K.h0.get? s.heap.objs.size = none ∧ ∀ p ∈ r.mu cx ++ (r.K.fz ++ r.it),p.1 ≠ s.heap.objs.size := by
 refine ⟨(Nat.ne_of_lt R.F.ns.lt).symm,?_,fun p hp e => ?_⟩
 ·cases q : r.K.h0.get? s.heap.objs.size with
  | none => rfl
  | some o => exact absurd (Heap.lt_size (R.F.keep _ _ q)) (Nat.lt_irrefl _)
 ·have := Heap.lt_size (R.N p hp).1
  rw [e] at this
  exact absurd this (Nat.lt_irrefl _)
theorem sameOs {j : Nat} {ao : AO} {n : Nat} {r' : Rt} {σ' : St} (g : Ver r σ r' σ') (h : σ.heap[j]? = some (ao,n)) (c : verAt j n σ' = true) : r'.os[j]? = r.os[j]? := by
 obtain ⟨ao',n',h1,_,h3⟩ := g.ver j ao n h
 unfold verAt at c
 rw [h1] at c
 exact h3 (Eq.symm (by simpa using c))
theorem verAt_self {j : Nat} {ao : AO} {n : Nat} (h : σ.heap[j]? = some (ao,n)) : verAt j n σ = true := by
 unfold verAt; rw [h]; simp
noncomputable def LoOk (tgt : PySem.Expr) : Prop := (∀ it v,letOwnedTupleGo tgt it v = pure ()) ∨ ∃ elts k pos,tgt = .Tuple elts k pos
theorem LoOk.name {x : Str} {px : Pos} : LoOk (.Name x px) := .inl fun _ _ => rfl
theorem LoOk.tuple {elts : List PySem.Expr} {k : Nat} {pos : Pos} : LoOk (.Tuple elts k pos) := .inr ⟨_,_,_,rfl⟩
theorem LoOk.list {tgt : PySem.Expr} (h : LoOk tgt) {prog : Program} {w : World} {A : Around} {s : Shared} {I l : Addr} {i : Nat} {v : Value} {Q : Unit → Shared → Prop} {E : Value → Shared → Prop} (hit : s.heap.IsListIter I l i) (hQ : Q () s) : wpAny (model prog w) A (letOwnedTupleGo tgt (.ref I) v) Q E s := by
 rcases h with h | ⟨elts,k,pos,rfl⟩
 ·rw [h]; exact wpAny_pure hQ
 ·cases v <;> first | exact wpAny_pure hQ | exact wpAny_letOwnedTupleGo_listiter hit hQ
set_option tactic.hygienic true in
theorem LoOk.tup {tgt : PySem.Expr} (h : LoOk tgt) {prog : Program} {w : World} {A : Around} {s : Shared} {I l : Addr} {i : Nat} {v : Value} {Q : Unit → Shared → Prop} {E : Value → Shared → Prop} (hit : s.heap.IsTupleIter I l i) (hQ : Q () s) : wpAny (model prog w) A (letOwnedTupleGo tgt (.ref I) v) Q E s := by
 rcases h with h | ⟨elts,k,pos,rfl⟩
 ·rw [h]; exact wpAny_pure hQ
 ·cases v <;> try exact wpAny_pure hQ
  rename_i T
  obtain ⟨o,ho,hc,hd⟩ := hit
  unfold letOwnedTupleGo
  refine wpAny_bind (wpAny_load ho ?_)
  rw [hc,hd]
  show wpAny _ A (if (["enumerate", "zip", "dict_itemiterator", "dict_reverseitemiterator", "odict_iterator", "itertools.zip_longest", "itertools.pairwise"].contains "tuple_iterator" &&
    (#[.ref l,.int i 0] : Array Value)[0]? == some (rawInt T)) = true then _ else _) Q E s
  rw [if_neg (by
   intro h
   rw [show (["enumerate", "zip", "dict_itemiterator", "dict_reverseitemiterator", "odict_iterator", "itertools.zip_longest", "itertools.pairwise"].contains "tuple_iterator") = false from by decide,Bool.false_and] at h
   cases h)]
  exact wpAny_pure hQ
theorem LoOk.int {tgt : PySem.Expr} (h : LoOk tgt) {prog : Program} {w : World} {A : Around} {s : Shared} {I : Addr} {kv : List (Int × Value)} {i : Nat} {v : Value} {Q : Unit → Shared → Prop} {E : Value → Shared → Prop} (hv : ∃ k x,kv[i]? = some (k,x) ∧ v.isInt k = true) (hQ : Q () s) : wpAny (model prog w) A (letOwnedTupleGo tgt (.ref I) v) Q E s := by
 obtain ⟨k,x,_,hv⟩ := hv
 obtain ⟨t,rfl⟩ := Value.isInt_shape hv
 rcases h with h | ⟨elts,k,pos,rfl⟩
 ·rw [h]; exact wpAny_pure hQ
 ·exact wpAny_pure hQ
noncomputable def fFor (fi : St → Option (AV × St)) (ta : AV → St → Option St) (fb : St → Option (AF × St)) (σ : St) : Option (AF × St) := fi σ >>= fun p => itemsOf p.1 p.2 >>= fun q => forS ta fb q.2 q.1 p.2
theorem itemsM {β : Type} {y : β} {P : Prop} {a : AV} {F : Nat → Option β} {G H : List AV → Option β} (h : (match a with | .fl xs => G xs | .tp xs => H xs | .ref n => F n | _ => none) = some y) (k1 : ∀ n,a = .ref n → F n = some y → P) (k2 : ∀ xs,a = .fl xs → G xs = some y → P) (k3 : ∀ xs,a = .tp xs → H xs = some y → P) : P := by
 cases a with
 | ref n => exact k1 n rfl h
 | fl xs => exact k2 xs rfl h
 | tp xs => exact k3 xs rfl h
 | _ => exact noneE h
theorem ss_for {tgt : PySem.Expr} {pos : Pos} {ta : AV → St → Option St} {iter : PySem.Expr} {body : List Stmt} {fi : St → Option (AV × St)} {fb : St → Option (AF × St)} (hi : SE ns iter fi) (hb : SB ns body fb) (hta : AS ns tgt ta) (hlo : LoOk tgt)
  (ht : ns.tm = true) (hd : ns.hand = true) (hs : ∀ env x,foldedSetIterable iter env x = pure x := by intro _ _; rfl) : SS ns (.For tgt iter body [] pos) (fFor fi ta fb) := by
 refine ⟨?_⟩
 intro cx hn σ v σ' hf r s R Q E hq
 subst hn
 have hd : cx.hand = true := hd
 obtain ⟨⟨a,σ1⟩,e1,e2⟩ := bS hf
 obtain ⟨⟨xs,chk⟩,e3,e4⟩ := bS e2
 refine For_stop (hi.run cx rfl _ _ _ e1 r s R _ _ fun r1 s1 ca g1 R1 ra => Stop.mk ?_) (hs _)
 obtain ⟨fI,f0,fr⟩ := R1.fresh
 have stays : ∀ o,s1.heap.StaysIn (s1.heap.push o) := fun o b x e => Heap.get?_push_of_some _ e
 dsimp only at e3 e4
 unfold itemsOf at e3
 refine itemsM e3 ?_ ?_ ?_
 all_goals clear e3
 ·intro n ea e3
  subst ea
  obtain ⟨a,rfl,hγ⟩ := ra.ref_inv
  refine listDictM e3 ?_ ?_
  all_goals clear e3
  ·intro xs' kk hh e3
   cases e3
   obtain ⟨es,h5,h6⟩ := R1.idx hγ hh
   obtain ⟨vs,nn,rfl,h7⟩ := h6.list_inv
   have hl : s1.heap.IsList a vs.toArray := ⟨_,R1.get h5 (.head _),rfl,nn,rfl⟩
   have hne : a ≠ s1.heap.objs.size := fun e => by
    have := Heap.lt_size (R1.get h5 (.head _)); dsimp only at this; rw [e] at this; exact absurd this (Nat.lt_irrefl _)
   refine wpAny_pyIter_list hl ?_
   have W := Walks.list (prog := prg) (w := cx.w) (cx.hh hd) s1.heap.objs.size a hne vs.toArray
   have hlen : vs.toArray.size = xs.length := by simp [h7.1]
   rw [hlen] at W
   refine for_walk hb hta (fun i v s Q E _ st h => hlo.list st.1 h) W (fun i v _ hv => ?_) (R1.keep (stays _)) fI f0 fr ⟨⟨_,Heap.get?_push_size _ rfl,rfl,rfl⟩,hl.push _⟩ (fun i h st => by obtain ⟨⟨o,ho,_⟩,_⟩ := st; exact ⟨o,ho⟩) (verAt_self hh) (fun i r' σ2 s' h R' g' c st e => ?_) e4 fun r' s' cf g' R' rf => hq r' s' cf (g1.trans ((Go.same (cx := cx)).trans g')) R' rf
   ·have hv' : vs[i]? = some v := by simpa using hv
    have hi := (List.getElem?_eq_some_iff.mp hv').1
    have hx' : xs[i]? = some (xs[i]'(by rw [← h7.1]; exact hi)) := List.getElem?_eq_getElem _
    exact ⟨_,hx',h7.2 i v _ hv' hx'⟩
   ·have := sameOs g'.toVer hh c
    exact ⟨st.1.at fun o e' => by rw [← e]; exact e',⟨_,R'.get (this.trans h5) (.head _),rfl,nn,rfl⟩⟩
  ·intro kvs kk hh e3
   cases e3
   obtain ⟨es,h5,h6⟩ := R1.idx hγ hh
   obtain ⟨od,kv,rfl,h7,h8,h9,h10⟩ := h6.dict_inv
   have hdo := R1.get h5 (.head _)
   obtain ⟨ds,ep,hx',hdat,hks,hps,hnd⟩ := h7
   have at' : ∀ h : Heap,h.get? a = some od → h.DictAt (PySem.intKind prg cx.w) a kv ep := fun h e => ⟨od,ds,e,hx',hdat,hks,hps,hnd⟩
   have hne : a ≠ s1.heap.objs.size := Nat.ne_of_lt (Heap.lt_size hdo)
   refine wpAny_pyIter_dict h8 (at' _ hdo) ?_
   have W := Walks.dictKeys (prog := prg) (w := cx.w) (knd := PySem.intKind prg cx.w) (cx.hh hd) s1.heap.objs.size a hne kv ep
   have hlen : kv.length = (kvs.map fun p => AV.int p.1).length := by
    have := congrArg List.length h9
    rw [List.length_map,List.length_map] at this
    rw [List.length_map,this]
   rw [hlen] at W
   refine for_walk hb hta (fun i v s Q E hv st h => hlo.int hv h) W (fun i v _ hv => ?_) (R1.keep (stays _)) fI f0 fr ⟨⟨_,Heap.get?_push_size _ rfl,rfl,by rw [← hlen]; rfl⟩,at' _ (Heap.get?_push_of_some _ hdo)⟩ (fun i h st => by obtain ⟨⟨o,ho,_⟩,_⟩ := st; exact ⟨o,ho⟩) (verAt_self hh) (fun i r' σ2 s' h R' g' c st e => ?_) e4 fun r' s' cf g' R' rf => hq r' s' cf (g1.trans ((Go.same (cx := cx)).trans g')) R' rf
   ·obtain ⟨kx,x',hkx,hkv⟩ := hv
    have e5 : (kv.map (·.1))[i]? = some kx := by rw [List.getElem?_map,hkx]; rfl
    rw [h9,List.getElem?_map] at e5
    cases q : kvs[i]? with
    | none => rw [q] at e5; cases e5
    | some pr =>
     rw [q] at e5; cases e5
     refine ⟨.int pr.1,by rw [List.getElem?_map,q]; rfl,?_⟩
     obtain ⟨t,rfl⟩ := Value.isInt_shape hkv
     exact .int _ _
   ·have := sameOs g'.toVer hh c
    exact ⟨st.1.at fun o e' => by rw [← e]; exact e',at' _ (R'.get (this.trans h5) (.head _))⟩
 ·intro xs' ea e3
  subst ea
  cases e3
  obtain ⟨a,vs,rfl,hk',hlen',hall⟩ := ra.fl_inv
  have hl := R1.kl hk'
  have hne : a ≠ s1.heap.objs.size := fun e => by
   obtain ⟨o,ho,_⟩ := hl
   rw [e] at ho
   exact absurd (Heap.lt_size ho) (Nat.lt_irrefl _)
  refine wpAny_pyIter_list hl ?_
  have W := Walks.list (prog := prg) (w := cx.w) (cx.hh hd) s1.heap.objs.size a hne vs.toArray
  have hlen : vs.toArray.size = xs.length := by simp [hlen']
  rw [hlen] at W
  refine for_walk hb hta (fun i v s Q E _ st h => hlo.list st.1 h) W (fun i v _ hv => ?_) (R1.keep (stays _)) fI f0 fr ⟨⟨_,Heap.get?_push_size _ rfl,rfl,rfl⟩,hl.push _⟩ (fun i h st => by obtain ⟨⟨o,ho,_⟩,_⟩ := st; exact ⟨o,ho⟩) rfl (fun i r' σ2 s' h R' g' c st e => ?_) e4 fun r' s' cf g' R' rf => hq r' s' cf (g1.trans ((Go.same (cx := cx)).trans g')) R' rf
  ·have hv' : vs[i]? = some v := by simpa using hv
   have hi := (List.getElem?_eq_some_iff.mp hv').1
   have hx' : xs[i]? = some (xs[i]'(by rw [← hlen']; exact hi)) := List.getElem?_eq_getElem _
   exact ⟨_,hx',hall i v _ hv' hx'⟩
  ·exact ⟨st.1.at fun o e' => by rw [← e]; exact e',R'.kl (hk'.le g'.K)⟩
 ·intro xs' ea e3
  subst ea
  cases e3
  obtain ⟨a,vs,rfl,hk',hlen',hall⟩ := ra.tp_inv
  have hl := R1.kt hk'
  have hne : a ≠ s1.heap.objs.size := fun e => by
   obtain ⟨o,ho,_⟩ := hl
   rw [e] at ho
   exact absurd (Heap.lt_size ho) (Nat.lt_irrefl _)
  refine wpAny_pyIter_tuple hl ?_
  have W := Walks.tuple (prog := prg) (w := cx.w) (cx.hh hd) s1.heap.objs.size a hne vs.toArray
  have hlen : vs.toArray.size = xs.length := by simp [hlen']
  rw [hlen] at W
  refine for_walk hb hta (fun i v s Q E _ st h => hlo.tup st.1 h) W (fun i v _ hv => ?_) (R1.keep (stays _)) fI f0 fr ⟨⟨_,Heap.get?_push_size _ rfl,rfl,rfl⟩,hl.push _⟩ (fun i h st => by obtain ⟨⟨o,ho,_⟩,_⟩ := st; exact ⟨o,ho⟩) rfl (fun i r' σ2 s' h R' g' c st e => ?_) e4 fun r' s' cf g' R' rf => hq r' s' cf (g1.trans ((Go.same (cx := cx)).trans g')) R' rf
  ·have hv' : vs[i]? = some v := by simpa using hv
   have hi := (List.getElem?_eq_some_iff.mp hv').1
   have hx' : xs[i]? = some (xs[i]'(by rw [← hlen']; exact hi)) := List.getElem?_eq_getElem _
   exact ⟨_,hx',hall i v _ hv' hx'⟩
  ·exact ⟨st.1.at fun o e' => by rw [← e]; exact e',R'.kt (hk'.le g'.K)⟩
end
noncomputable def Op1 (ns : Sig) (id : String) (op : AV → AV → St → Option (AV × St)) : Prop :=
 ∀ (cx : Cx) r σ s ov co xv cv v σ',cx.sig = ns → Rel cx r σ s → RV r.K r.γ co ov → RV r.K r.γ cv xv → op ov xv σ = some (v,σ') → ∀ (Q E : Value → Shared → Prop),
  (PV cx r σ s v σ' Q) → wpAny (model prg cx.w) cx.A (call (.builtin id) [co,cv]) Q E s
noncomputable def Op0 (ns : Sig) (id : String) (op : AV → St → Option (AV × St)) : Prop :=
 ∀ (cx : Cx) r σ s ov co v σ',cx.sig = ns → Rel cx r σ s → RV r.K r.γ co ov → op ov σ = some (v,σ') → ∀ (Q E : Value → Shared → Prop),
  (PV cx r σ s v σ' Q) → wpAny (model prg cx.w) cx.A (call (.builtin id) [co]) Q E s
noncomputable def Get (ns : Sig) (name : Str) (id : String) (pre : AV → St → Bool) : Prop :=
 ∀ (cx : Cx) r σ s ov co,cx.sig = ns → Rel cx r σ s → RV r.K r.γ co ov → pre ov σ = true → ∀ (Q : Value × List Value → Shared → Prop) (E : Value → Shared → Prop) (pl : Sem Bool),Q (.builtin id,[co]) s → wpAny (model prg cx.w) cx.A (getMethod co name pl) Q E s
noncomputable abbrev Tm (ns : Sig) : Prop := ns.tm = true
section
variable {ns : Sig} {cx : Cx} {r : Rt} {σ : St} {s : Shared}
noncomputable def fM1 (fo fa : St → Option (AV × St)) (pre : AV → St → Bool) (op : AV → AV → St → Option (AV × St)) (σ : St) : Option (AV × St) := fo σ >>= fun p => if pre p.1 p.2 then fa p.2 >>= fun q => op p.1 q.1 q.2 else none
noncomputable def fM0 (fo : St → Option (AV × St)) (pre : AV → St → Bool) (op : AV → St → Option (AV × St)) (σ : St) : Option (AV × St) := fo σ >>= fun p => if pre p.1 p.2 then op p.1 p.2 else none
theorem se_meth1 {o a : PySem.Expr} {name : Str} {id : String} {ap pos : Pos} {pl : Env → Sem Bool} {fo fa : St → Option (AV × St)} {pre : AV → St → Bool} {op : AV → AV → St → Option (AV × St)} (hg : Get ns name id pre) (hop : Op1 ns id op) (ho : SE ns o fo) (ha : SE ns a fa)
  (hev : ∀ env,eval (.Call (.Attribute o name ap) [a] [] pos) env = (do let ov ← eval o env; standAt ap.atName; let (f,first) ← holding [ov] (getMethod ov name (pl env)); callWith pos f first (backTo pos (starEach [a] env)) []) := by intro _; with_unfolding_all rfl)
  (hst : ∀ env,starEach [a] env = (false,eval a env) :: starEach [] env := by intro _; with_unfolding_all rfl) :
  SE ns (.Call (.Attribute o name ap) [a] [] pos) (fM1 fo fa pre op) := by
 refine ⟨?_⟩
 intro cx hn σ v σ' hf r s R Q E hq
 obtain ⟨⟨ov,σ1⟩,e1,e2⟩ := bS hf
 refine ifM e2 fun hp e2 => ?_
 obtain ⟨⟨xv,σ2⟩,e3,e4⟩ := bS e2
 refine MethodCall_ (ho.run cx hn _ _ _ e1 r s R _ _ fun r1 s1 co g1 R1 ro => hg cx r1 σ1 s1 ov co hn R1 ro hp _ _ _ ?_) (hev _)
 refine callWith_method1 ?_ (hst _) rfl
 refine args_cons (ha.run cx hn _ _ _ e3 r1 s1 R1 _ _ fun r2 s2 cv g2 R2 rv => args_nil ?_) (hst _)
 exact hop cx r2 σ2 s2 ov co xv cv v σ' hn R2 (ro.later g2.toLater) rv e4 _ _ fun r3 s3 cw g3 R3 rw => hq r3 s3 cw ((g1.trans g2).trans g3) R3 rw
theorem se_meth0 {o : PySem.Expr} {name : Str} {id : String} {ap pos : Pos} {pl : Env → Sem Bool} {fo : St → Option (AV × St)} {pre : AV → St → Bool} {op : AV → St → Option (AV × St)} (hg : Get ns name id pre) (hop : Op0 ns id op) (ho : SE ns o fo)
  (hev : ∀ env,eval (.Call (.Attribute o name ap) [] [] pos) env = (do let ov ← eval o env; standAt ap.atName; let (f,first) ← holding [ov] (getMethod ov name (pl env)); callWith pos f first (backTo pos (starEach [] env)) []) := by intro _; with_unfolding_all rfl) :
  SE ns (.Call (.Attribute o name ap) [] [] pos) (fM0 fo pre op) := by
 refine ⟨?_⟩
 intro cx hn σ v σ' hf r s R Q E hq
 obtain ⟨⟨ov,σ1⟩,e1,e2⟩ := bS hf
 refine ifM e2 fun hp e2 => ?_
 refine MethodCall_ (ho.run cx hn _ _ _ e1 r s R _ _ fun r1 s1 co g1 R1 ro => hg cx r1 σ1 s1 ov co hn R1 ro hp _ _ _ ?_) (hev _)
 refine callWith_method0 ?_
 exact hop cx r1 σ1 s1 ov co v σ' hn R1 ro e2 _ _ fun r3 s3 cw g3 R3 rw => hq r3 s3 cw (g1.trans g3) R3 rw
noncomputable def isL (v : AV) (σ : St) : Bool := match v with
 | .ref n => (match σ.heap[n]? with | some (.list _,_) => true | _ => false)
 | _ => false
noncomputable def isD (v : AV) (σ : St) : Bool := match v with
 | .ref n => (match σ.heap[n]? with | some (.dict _,_) => true | _ => false)
 | _ => false
noncomputable def isS (v : AV) (σ : St) : Bool := match v with
 | .ref n => (match σ.heap[n]? with | some (.set ks,_) => decide (ks.length < 1000) | _ => false)
 | _ => false
theorem isL_ok (R : Rel cx r σ s) {v : AV} {cv : Value} (hv : RV r.K r.γ cv v) (h : isL v σ = true) : ∃ n xs k a vs nn,v = .ref n ∧ cv = .ref a ∧ σ.heap[n]? = some (.list xs,k) ∧ r.os[n]? = some (a,[(a,W.listOf vs.toArray nn)]) ∧ RVs r.K r.γ vs xs := by
 refine refB h fun n eM h => ?_
 subst eM
 refine listB h fun xs k hh h => ?_
 obtain ⟨a,rfl,hγ⟩ := hv.ref_inv
 obtain ⟨es,h5,h6⟩ := R.idx hγ hh
 obtain ⟨vs,nn,rfl,h7⟩ := h6.list_inv
 exact ⟨n,xs,k,a,vs,nn,rfl,rfl,hh,h5,h7⟩
theorem get_list {name : Str} {id : String} (tm : Tm ns) (sl : Slot "list" name id) (ty : typeOf (.builtin id) = pure (.type "method_descriptor")) : Get ns name id isL := by
 intro cx r σ s ov co hn R ro hp Q E pl h
 obtain ⟨n,xs,k,a,vs,nn,rfl,rfl,hh,h5,h7⟩ := isL_ok R ro hp
 exact listMethod_K R.N (mL _ (ento (tmOf hn tm) h5 (.head _))) sl ty h
theorem get_dict_get (tm : Tm ns) : Get ns (Str.ofString "get") "dict.get" isD := by
 intro cx r σ s ov co hn R ro hp Q E pl h
 refine refB hp fun n eM hp => ?_
 subst eM
 refine dictB hp fun kvs k hh hp => ?_
 obtain ⟨a,rfl,hγ⟩ := ro.ref_inv
 obtain ⟨es,h5,h6⟩ := R.idx hγ hh
 obtain ⟨od,kv,rfl,h7,h8,h9,h10⟩ := h6.dict_inv
 exact kdg_method (knd := PySem.intKind prg cx.w) R.N (mL _ (ento (tmOf hn tm) h5 (.head _))) h7 h
theorem get_set_add (tm : Tm ns) : Get ns (Str.ofString "add") "set.add" isS := by
 intro cx r σ s ov co hn R ro hp Q E pl h
 refine refB hp fun n eM hp => ?_
 subst eM
 refine setB hp fun ks k hh hp => ?_
 obtain ⟨a,rfl,hγ⟩ := ro.ref_inv
 obtain ⟨es,h5,h6⟩ := R.idx hγ hh
 obtain ⟨os,S,nn,rfl,h7,h8,h9⟩ := h6.set_inv
 refine kse_method (knd := PySem.intKind prg cx.w) R.N (R.updF (tmOf hn tm) h5 (.head _)) h7 ?_ h
 have : scanBound = 4096 := rfl
 have := of_decide_eq_true hp
 lia
theorem RVs.snoc {K : Kno} {γ : List Addr} {vs : List Value} {xs : List AV} {v : Value} {x : AV} (h : RVs K γ vs xs) (hv : RV K γ v x) : RVs K γ (vs ++ [v]) (xs ++ [x]) := by
 refine ⟨by rw [List.length_append,List.length_append,h.1]; rfl,fun i a b e f => ?_⟩
 by_cases hi : i < vs.length
 ·rw [List.getElem?_append_left hi] at e
  rw [List.getElem?_append_left (by rw [← h.1]; exact hi)] at f
  exact h.2 i a b e f
 ·rw [List.getElem?_append_right (by exact Nat.le_of_not_lt ‹_›)] at e
  rw [List.getElem?_append_right (by rw [← h.1]; exact Nat.le_of_not_lt ‹_›),← h.1] at f
  have : i - vs.length = 0 := by
   have := (List.getElem?_eq_some_iff.mp e).1
   simp at this; omega
  rw [this] at e f
  cases e; cases f
  exact hv
theorem RVs.append {K : Kno} {γ : List Addr} {vs ws : List Value} {xs ys : List AV} (h : RVs K γ vs xs) (h' : RVs K γ ws ys) : RVs K γ (vs ++ ws) (xs ++ ys) := by
 refine ⟨by rw [List.length_append,List.length_append,h.1,h'.1],fun i a b e f => ?_⟩
 by_cases hi : i < vs.length
 ·rw [List.getElem?_append_left hi] at e
  rw [List.getElem?_append_left (by rw [← h.1]; exact hi)] at f
  exact h.2 i a b e f
 ·rw [List.getElem?_append_right (by exact Nat.le_of_not_lt ‹_›)] at e
  rw [List.getElem?_append_right (by rw [← h.1]; exact Nat.le_of_not_lt ‹_›),← h.1] at f
  exact h'.2 _ a b e f
noncomputable def appendV (o x : AV) (σ : St) : Option (AV × St) := match o with
 | .ref n => (match σ.heap[n]? with
  | some (.list xs,k) => if xs.length < 1000 then some (.none,turn σ n (.list (xs ++ [x])) k) else none
  | _ => none)
 | _ => none
theorem op_append (tm : Tm ns) : Op1 ns "list.append" appendV := by
 intro cx r σ s ov co xv cv v σ' hn R ro rx h Q E hq
 refine refM h fun n eM h => ?_
 subst eM
 refine listM h fun xs k hh h => ?_
 refine ifM h fun hlt h => ?_
 replace hq := hq.eq h
 obtain ⟨a,rfl,hγ⟩ := ro.ref_inv
 obtain ⟨es,h5,h6⟩ := R.idx hγ hh
 obtain ⟨vs,nn,rfl,h7⟩ := h6.list_inv
 refine append_upd R.F R.N (R.updF (tmOf hn tm) h5 (.head _)) (by rw [h7.1]; lia) fun h' n' F' N' => ?_
 obtain ⟨R',g'⟩ := R.upd (tmOf hn tm) h5 (.head _) F' N' hh (ao := .list (xs ++ [xv])) (by rw [rep_one]; exact .list _ _ _ _ (h7.snoc rx)) (tk := s.toks)
 exact hq _ _ _ g' R' .none
noncomputable def clearV (o : AV) (σ : St) : Option (AV × St) := match o with
 | .ref n => (match σ.heap[n]? with
  | some (.list xs,k) => if xs.length < 1000 then some (.none,turn σ n (.list []) k) else none
  | _ => none)
 | _ => none
theorem op_clear (tm : Tm ns) : Op0 ns "list.clear" clearV := by
 intro cx r σ s ov co v σ' hn R ro h Q E hq
 refine refM h fun n eM h => ?_
 subst eM
 refine listM h fun xs k hh h => ?_
 refine ifM h fun hlt h => ?_
 replace hq := hq.eq h
 obtain ⟨a,rfl,hγ⟩ := ro.ref_inv
 obtain ⟨es,h5,h6⟩ := R.idx hγ hh
 obtain ⟨vs,nn,rfl,h7⟩ := h6.list_inv
 refine clear_upd R.F R.N (R.updF (tmOf hn tm) h5 (.head _)) (by rw [h7.1]; omega) fun h' n' F' N' => ?_
 obtain ⟨R',g'⟩ := R.upd (tmOf hn tm) h5 (.head _) F' N' hh (ao := .list []) (by rw [rep_one]; exact .list _ [] _ _ ⟨rfl,fun i a b e => by simp at e⟩) (tk := s.toks)
 exact hq _ _ _ g' R' .none
noncomputable def popV (o : AV) (σ : St) : Option (AV × St) := match o with
 | .ref n => (match σ.heap[n]? with
  | some (.list xs,k) => if xs.length < 1000 then xs.getLast?.map fun x => (x,turn σ n (.list xs.dropLast) k) else none
  | _ => none)
 | _ => none
noncomputable def getV (o x : AV) (σ : St) : Option (AV × St) := match o,x with
 | .ref n,.int k => (match σ.heap[n]? with
  | some (.dict kvs,_) => some ((kvs.lookup k).getD .none,σ)
  | _ => none)
 | _,_ => none
theorem op_get (tm : Tm ns) : Op1 ns "dict.get" getV := by
 intro cx r σ s ov co xv cv v σ' hn R ro rx h Q E hq
 refine refIntM h fun n k eM eM2 h => ?_
 subst eM
 subst eM2
 refine dictM h fun kvs kk hh h => ?_
 replace hq := hq.eq h
 obtain ⟨a,rfl,hγ⟩ := ro.ref_inv
 obtain ⟨t,rfl⟩ := rx.int_inv
 obtain ⟨es,h5,h6⟩ := R.idx hγ hh
 obtain ⟨od,kv,rfl,h7,h8,h9,h10⟩ := h6.dict_inv
 have K := kvs_at (k := k) h9 h10
 refine kdg_get1 (knd := PySem.intKind prg cx.w) R.N (mL _ (ento (tmOf hn tm) h5 (.head _))) h7 h8 (intKind_is _ _ _ _) (valueAt kv k) rfl ?_
 cases e : kvs.lookup k with
 | none => rw [e] at hq; rw [K.2 e]; exact hq r _ _ .same R.tok .none
 | some y =>
  rw [e] at hq
  obtain ⟨w,e1,e2⟩ := K.1 y e
  rw [e1]; exact hq r _ _ .same R.tok e2
theorem any_or {ks : List Int} {k k' : Int} : (ks.any (· == k') || decide (k' = k)) = (k :: ks).any (· == k') := by
 rw [List.any_cons,Bool.or_comm]
 have : decide (k' = k) = (k == k') := by
  by_cases q : k' = k
  ·rw [q,beq_self_eq_true]; exact decide_eq_true rfl
  ·rw [decide_eq_false q]; exact (beq_eq_false_iff_ne.mpr fun e => q e.symm).symm
 rw [this]
noncomputable def addV (o x : AV) (σ : St) : Option (AV × St) := match o,x with
 | .ref n,.int k => (match σ.heap[n]? with
  | some (.set ks,j) => if ks.length < 1000 then some (.none,turn σ n (.set (k :: ks)) j) else none
  | _ => none)
 | _,_ => none
theorem op_add (tm : Tm ns) : Op1 ns "set.add" addV := by
 intro cx r σ s ov co xv cv v σ' hn R ro rx h Q E hq
 refine refIntM h fun n k eM eM2 h => ?_
 subst eM
 subst eM2
 refine setM h fun ks j hh h => ?_
 refine ifM h fun hlt h => ?_
 replace hq := hq.eq h
 obtain ⟨a,rfl,hγ⟩ := ro.ref_inv
 obtain ⟨t,rfl⟩ := rx.int_inv
 obtain ⟨es,h5,h6⟩ := R.idx hγ hh
 obtain ⟨os,S,nn,rfl,h7,h8,h9⟩ := h6.set_inv
 have hb : scanBound = 4096 := rfl
 refine kse_add (knd := PySem.intKind prg cx.w) R.F R.N (R.updF (tmOf hn tm) h5 (.head _)) h7 (by lia) (intKind_is _ _ _ _) rfl fun h' so' F' N' hs' => ?_
 obtain ⟨R',g'⟩ := R.upd (tmOf hn tm) h5 (.head _) F' N' hh (ao := .set (k :: ks)) (by
  rw [rep_one]
  refine .set _ _ _ _ _ hs' (by rw [List.length_cons]; split <;> omega) fun k' => ?_
  rw [h9 k']; exact any_or) (tk := s.toks + 1)
 exact hq _ _ _ g' R' .none
end
section
open PySem.AutoSeq1
set_option maxRecDepth 8000 in
theorem ext_any (l : Addr) (items : Array Value) (n : Nat) (b : Addr) (items2 : Array Value) (n2 : Nat) (db : Option Addr) (sb : Array (Option Value)) (hs0 : ¬(!items.isEmpty && Builtin.List.listTooLong (items.size + items2.size)) = true) (hs1 : items.size ≤ sizeLine) (hs2 : items.size + items2.size ≤ sizeLine + 1) :
  Meets (Builtin.«list.extend» ⟨[.ref l,.ref b],[]⟩) (fun _ R s => s.heap.get? l = some { cls := .type "list",dict := none,data := .seq items n,slots := #[] } ∧ s.heap.get? b = some { cls := .type "tuple",dict := db,data := .seq items2 n2,slots := sb } ∧ R (.ok (.ret Value.none)) { s with heap := s.heap.update l (Obj.mapSeq fun x => x ++ items2),toks := s.toks }) :=
 .of_wp fun prog w A R s h => by
  obtain ⟨hp,g,d,tk,os⟩ := s; obtain ⟨hl,hb,h⟩ := h; have f1 := idx_int; have f2 := PySem.AutoSeq1.sub_tuple_tuple; have f3 := PySem.AutoSeq1.sub_list_list; have f4 := PySem.AutoSeq1.sub_tuple_list; have f5 := PySem.AutoSeq1.sub_list_tuple;
  have hz' : (items ++ items2).size ≤ sizeLine + 1 := by rw [Array.size_append]; exact hs2
  wp_walk using (wpAny_updateSeq hl rfl (hz := hs1) (_hz' := hz')),wpAny_loadPart' hl,wpAny_loadPart' hb; exact ⟨_,rfl,h⟩
set_option maxRecDepth 8000 in
theorem ext_anyL (l : Addr) (items : Array Value) (n : Nat) (b : Addr) (items2 : Array Value) (n2 : Nat) (db : Option Addr) (sb : Array (Option Value)) (hs0 : ¬(!items.isEmpty && Builtin.List.listTooLong (items.size + items2.size)) = true) (hs1 : items.size ≤ sizeLine) (hs2 : items.size + items2.size ≤ sizeLine + 1) :
  Meets (Builtin.«list.extend» ⟨[.ref l,.ref b],[]⟩) (fun _ R s => s.heap.get? l = some { cls := .type "list",dict := none,data := .seq items n,slots := #[] } ∧ s.heap.get? b = some { cls := .type "list",dict := db,data := .seq items2 n2,slots := sb } ∧ R (.ok (.ret Value.none)) { s with heap := s.heap.update l (Obj.mapSeq fun x => x ++ items2),toks := s.toks }) :=
 .of_wp fun prog w A R s h => by
  obtain ⟨hp,g,d,tk,os⟩ := s; obtain ⟨hl,hb,h⟩ := h; have f1 := idx_int; have f2 := PySem.AutoSeq1.sub_tuple_tuple; have f3 := PySem.AutoSeq1.sub_list_list; have f4 := PySem.AutoSeq1.sub_tuple_list; have f5 := PySem.AutoSeq1.sub_list_tuple;
  have hz' : (items ++ items2).size ≤ sizeLine + 1 := by rw [Array.size_append]; exact hs2
  wp_walk using (wpAny_updateSeq hl rfl (hz := hs1) (_hz' := hz')),wpAny_loadPart' hl,wpAny_loadPart' hb; exact ⟨_,rfl,h⟩
end
section
variable {ns : Sig} {cx : Cx} {r : Rt} {σ : St} {s : Shared}
theorem kl_last_snoc : ∀ (p : List Value) (y : Value),kl_last (p ++ [y]) = some (p,y)
 | [],y => rfl
 | x :: p,y => by
  show (match kl_last (p ++ [y]) with | some (p,y) => some (x :: p,y) | none => some ([],x)) = _
  rw [kl_last_snoc p y]
theorem RVs.last {K : Kno} {γ : List Addr} {vs : List Value} {xs : List AV} {x : AV} (h : RVs K γ vs xs) (e : xs.getLast? = some x) : ∃ p y,vs = p ++ [y] ∧ RVs K γ p xs.dropLast ∧ RV K γ y x := by
 have hx : xs = xs.dropLast ++ [x] := by
  obtain ⟨l,hl⟩ := List.getLast?_eq_some_iff.mp e
  rw [hl]; simp
 have hne : vs ≠ [] := fun q => by
  have := h.1
  rw [hx,q] at this; simp at this
 have hv : vs.dropLast ++ [vs.getLast hne] = vs := List.dropLast_concat_getLast hne
 refine ⟨vs.dropLast,vs.getLast hne,hv.symm,⟨by rw [List.length_dropLast,List.length_dropLast,h.1],fun i a b e1 e2 => ?_⟩,?_⟩
 ·refine h.2 i a b ?_ ?_
  ·rw [← hv,List.getElem?_append_left (List.getElem?_eq_some_iff.mp e1).1]; exact e1
  ·rw [hx,List.getElem?_append_left (List.getElem?_eq_some_iff.mp e2).1]; exact e2
 ·refine h.2 vs.dropLast.length _ _ ?_ ?_
  ·conv => lhs; rw [← hv]
   simp
  ·have : vs.dropLast.length = xs.dropLast.length := by rw [List.length_dropLast,List.length_dropLast,h.1]
   rw [this]
   conv => lhs; rw [hx]
   simp
theorem op_pop (tm : Tm ns) : Op0 ns "list.pop" popV := by
 intro cx r σ s ov co v σ' hn R ro h Q E hq
 refine refM h fun n eM h => ?_
 subst eM
 refine listM h fun xs k hh h => ?_
 refine ifM h fun hlt h => ?_
 cases hx : xs.getLast? with
 | none => rw [hx] at h; cases h
 | some x =>
  rw [hx] at h; replace hq := hq.eq h
  obtain ⟨a,rfl,hγ⟩ := ro.ref_inv
  obtain ⟨es,h5,h6⟩ := R.idx hγ hh
  obtain ⟨vs,nn,rfl,h7⟩ := h6.list_inv
  obtain ⟨p,y,rfl,h8,h9⟩ := h7.last hx
  have hl : (p ++ [y]).length < 1000 := by rw [h7.1]; exact hlt
  refine kl_pop R.F R.N (kl_last_snoc p y) (upd_of (R.updF (tmOf hn tm) h5 (.head _))) (by rw [sizeLine_eq]; show (p ++ [y]).length ≤ _; lia) fun h' F' N' => ?_
  obtain ⟨R',g'⟩ := R.upd (tmOf hn tm) h5 (.head _) F' N' hh (ao := .list xs.dropLast) (by rw [rep_one]; exact .list _ _ _ _ h8) (tk := s.toks)
  exact hq _ _ _ g' R' (h9.later g'.toLater)
noncomputable def ivs (ks : List Int) : List AV := ks.map .int
theorem RVs.ofInts {K : Kno} {γ : List Addr} {vs : List Value} {ks : List Int} (h : IntsAre vs ks) : RVs K γ vs (ivs ks) := by
 refine ⟨by unfold ivs; rw [List.length_map,h.length],fun i v x e f => ?_⟩
 obtain ⟨n,t,rfl,e2⟩ := h.at i v e
 unfold ivs at f
 rw [List.getElem?_map,e2] at f
 cases f
 exact .int n t
noncomputable def removeV (o x : AV) (σ : St) : Option (AV × St) := match o,x with
 | .ref n,.int k => (match σ.heap[n]? with
  | some (.list xs,j) => (match toInts xs with
   | some ks => if ks.length < 1000 ∧ ks.any (· == k) = true then some (.none,turn σ n (.list (ivs (ks.erase k))) j) else none
   | none => none)
  | _ => none)
 | _,_ => none
theorem op_remove (tm : Tm ns) : Op1 ns "list.remove" removeV := by
 intro cx r σ s ov co xv cv v σ' hn R ro rx h Q E hq
 refine refIntM h fun n k eM eM2 h => ?_
 subst eM
 subst eM2
 refine listM h fun xs j hh h => ?_
 split at h
 ·rename_i ks hks
  refine ifM h fun hc h => ?_
  replace hq := hq.eq h
  obtain ⟨t,rfl⟩ := rx.int_inv
  obtain ⟨a,rfl,hγ⟩ := ro.ref_inv
  obtain ⟨es,h5,h6⟩ := R.idx hγ hh
  obtain ⟨vs,nn,rfl,h7⟩ := h6.list_inv
  have hI := toInts_ok h7 hks
  obtain ⟨jj,q,e1,e2,e3⟩ := remove_at hI (any_eq_mem.mp hc.2)
  refine kf_remove R.F R.N (kf_ints_of hI) e1 e2 (upd_of (R.updF (tmOf hn tm) h5 (.head _))) (by rw [sizeLine_eq]; show vs.length ≤ _; have := hI.length; omega) fun h' F' N' => ?_
  obtain ⟨R',g'⟩ := R.upd (tmOf hn tm) h5 (.head _) F' N' hh (ao := .list (ivs (ks.erase k))) (by rw [rep_one]; exact .list _ _ _ _ (.ofInts e3)) (tk := s.toks)
  exact hq _ _ _ g' R' .none
 ·cases h
noncomputable def extV (o x : AV) (σ : St) : Option (AV × St) := match o,x with
 | .ref n,.tp ys => (match σ.heap[n]? with
  | some (.list xs,j) => if xs.length + ys.length < 1000 then some (.none,turn σ n (.list (xs ++ ys)) j) else none
  | _ => none)
 | .ref n,.fl ys => (match σ.heap[n]? with
  | some (.list xs,j) => if xs.length + ys.length < 1000 then some (.none,turn σ n (.list (xs ++ ys)) j) else none
  | _ => none)
 | .ref n,.ref m => (match σ.heap[n]? with
  | some (.list xs,j) => (match σ.heap[m]? with
   | some (.list ys,_) => if xs.length + ys.length < 1000 then some (.none,turn σ n (.list (xs ++ ys)) j) else none
   | _ => none)
  | _ => none)
 | _,_ => none
theorem ext_fin (tm : cx.tm = true) (R : Rel cx r σ s) {n : Nat} {a : Addr} {vs ws : List Value} {xs ys : List AV} {nn j : Nat} (h5 : r.os[n]? = some (a,[(a,W.listOf vs.toArray nn)])) (hh : σ.heap[n]? = some (.list xs,j)) (h7 : RVs r.K r.γ vs xs) (h8 : RVs r.K r.γ ws ys) {Q : Value → Shared → Prop}
  (hq : ∀ r' s' cv,Go cx r σ s r' (turn σ n (.list (xs ++ ys)) j) s' → Rel cx r' (turn σ n (.list (xs ++ ys)) j) s' → RV r'.K r'.γ cv .none → Q cv s') :
  Q .none { s with heap := s.heap.update a (Obj.mapSeq fun x => x ++ ws.toArray),toks := s.toks } := by
 obtain ⟨pre,post,e1,hg,a',b'⟩ := (R.updF tm h5 (.head _)).split
 have z := R.N (a,W.listOf vs.toArray nn) (mL _ (ento tm h5 (.head _)))
 obtain ⟨n',hn'⟩ := mapSeq_at (h := s.heap) (fun x => x ++ ws.toArray) z.1
 have e : vs.toArray ++ ws.toArray = (vs ++ ws).toArray := by simp
 rw [e] at hn'
 have N0 := R.N
 rw [e1] at N0
 have N' := hg _ ▸ N0.setIn a' b' (Heap.SameBut.update ..) hn'
 obtain ⟨R',g'⟩ := R.upd tm h5 (.head _) (R.F.change (Heap.SameBut.update ..) z.2.1 z.2.2) N' hh (ao := .list (xs ++ ys)) (by rw [rep_one]; exact .list _ _ _ _ (h7.append h8)) (tk := s.toks)
 exact hq _ _ _ g' R' .none
theorem extM {β : Type} {y : β} {P : Prop} {o i : AV} {F G : Nat → List AV → Option β} {H : Nat → Nat → Option β} (h : (match o,i with | .ref n,.tp ys => F n ys | .ref n,.fl ys => G n ys | .ref n,.ref m => H n m | _,_ => none) = some y)
  (k1 : ∀ n ys,o = .ref n → i = .tp ys → F n ys = some y → P) (k2 : ∀ n ys,o = .ref n → i = .fl ys → G n ys = some y → P) (k3 : ∀ n m,o = .ref n → i = .ref m → H n m = some y → P) : P := by
 cases o with
 | ref n =>
  cases i with
  | tp ys => exact k1 n ys rfl rfl h
  | fl ys => exact k2 n ys rfl rfl h
  | ref m => exact k3 n m rfl rfl h
  | _ => exact noneE h
 | _ => exact noneE h
theorem op_extend (tm : Tm ns) : Op1 ns "list.extend" extV := by
 intro cx r σ s ov co xv cv v σ' hn R ro rx h Q E hq
 have sl : sizeLine = 16777216 := sizeLine_eq
 unfold extV at h
 refine extM h ?_ ?_ ?_
 all_goals clear h
 ·intro n ys eo ei h
  subst eo ei
  refine listM h fun xs j hh h => ?_
  refine ifM h fun hlt h => ?_
  replace hq := hq.eq h
  obtain ⟨a,rfl,hγ⟩ := ro.ref_inv
  obtain ⟨b,ws,rfl,hk,hlen,hall⟩ := rx.tp_inv
  obtain ⟨es,h5,h6⟩ := R.idx hγ hh
  obtain ⟨vs,nn,rfl,h7⟩ := h6.list_inv
  obtain ⟨⟨c,db,d,sb⟩,ho,hc,n2,hd⟩ := R.kt hk
  dsimp only at hc hd
  subst hc hd
  have l1 := h7.1
  refine call_meets PySem.F.slot_list_extend ⟨_,R.get h5 (.head _),rfl⟩ PySem.F.entry_list_extend (PySem.F.args_list_extend_2 _ _) (ext_any a vs.toArray nn b ws.toArray n2 db sb ?_ ?_ ?_) ⟨R.get h5 (.head _),ho,?_⟩
  ·simp only [Builtin.List.listTooLong,List.size_toArray,Bool.and_eq_true,decide_eq_true_eq,not_and]
   intro _; lia
  ·rw [List.size_toArray]; lia
  ·rw [List.size_toArray,List.size_toArray]; lia
  ·exact ext_fin (tmOf hn tm) R h5 hh h7 ⟨hlen,hall⟩ hq
 ·intro n ys eo ei h
  subst eo ei
  refine listM h fun xs j hh h => ?_
  refine ifM h fun hlt h => ?_
  replace hq := hq.eq h
  obtain ⟨a,rfl,hγ⟩ := ro.ref_inv
  obtain ⟨b,ws,rfl,hk,hlen,hall⟩ := rx.fl_inv
  obtain ⟨es,h5,h6⟩ := R.idx hγ hh
  obtain ⟨vs,nn,rfl,h7⟩ := h6.list_inv
  obtain ⟨⟨c,db,d,sb⟩,ho,hc,n2,hd⟩ := R.kl hk
  dsimp only at hc hd
  subst hc hd
  have l1 := h7.1
  refine call_meets PySem.F.slot_list_extend ⟨_,R.get h5 (.head _),rfl⟩ PySem.F.entry_list_extend (PySem.F.args_list_extend_2 _ _) (ext_anyL a vs.toArray nn b ws.toArray n2 db sb ?_ ?_ ?_) ⟨R.get h5 (.head _),ho,?_⟩
  ·simp only [Builtin.List.listTooLong,List.size_toArray,Bool.and_eq_true,decide_eq_true_eq,not_and]
   intro _; omega
  ·rw [List.size_toArray]; omega
  ·rw [List.size_toArray,List.size_toArray]; omega
  ·exact ext_fin (tmOf hn tm) R h5 hh h7 ⟨hlen,hall⟩ hq
 ·intro n m eo ei h
  subst eo ei
  refine listM h fun xs j hh h => ?_
  refine listM h fun ys jj hh2 h => ?_
  refine ifM h fun hlt h => ?_
  replace hq := hq.eq h
  obtain ⟨a,rfl,hγ⟩ := ro.ref_inv
  obtain ⟨b,rfl,hγ2⟩ := rx.ref_inv
  obtain ⟨es,h5,h6⟩ := R.idx hγ hh
  obtain ⟨es2,g5,g6⟩ := R.idx hγ2 hh2
  obtain ⟨vs,nn,rfl,h7⟩ := h6.list_inv
  obtain ⟨ws,n2,rfl,g7⟩ := g6.list_inv
  have l1 := h7.1
  have l2 := g7.1
  refine call_meets PySem.F.slot_list_extend ⟨_,R.get h5 (.head _),rfl⟩ PySem.F.entry_list_extend (PySem.F.args_list_extend_2 _ _) (ext_anyL a vs.toArray nn b ws.toArray n2 none #[] ?_ ?_ ?_) ⟨R.get h5 (.head _),R.get g5 (.head _),?_⟩
  ·simp only [Builtin.List.listTooLong,List.size_toArray,Bool.and_eq_true,decide_eq_true_eq,not_and]
   intro _; lia
  ·rw [List.size_toArray]; lia
  ·rw [List.size_toArray,List.size_toArray]; lia
  ·exact ext_fin (tmOf hn tm) R h5 hh h7 g7 hq
end
noncomputable def OpT (ns : Sig) (T : String) (op : AV → St → Option (AV × St)) : Prop :=
 ∀ (cx : Cx) r σ s ov co v σ',cx.sig = ns → Rel cx r σ s → RV r.K r.γ co ov → op ov σ = some (v,σ') → ∀ (Q E : Value → Shared → Prop),
  (PV cx r σ s v σ' Q) → wpAny (model prg cx.w) cx.A (call (.type T) [co]) Q E s
section
variable {ns : Sig} {cx : Cx} {r : Rt} {σ : St} {s : Shared}
theorem bname {x : Str} {v : Value} {pos : Pos} (hn : cx.sig = ns) (hx : ns.names.lookup x = some .globalImplicit) (hnone : ∀ P,nsIn (hd.heap_1 P) mainGlobals x = some none) (hb : bootBuiltins x = some v) (hd : (x == ("__debug__" : Str)) = false) (h1 : x ≠ "__name__") (R : Rel cx r σ s) {Q : Value → Shared → Prop} {E : Value → Shared → Prop} (h : Q v s) :
  wpAny (model prg cx.w) cx.A (eval (.Name x pos) cx.env) Q E s :=
 nmB R.Fe R.X R.T (hnone _) hb h1 h cx.hg cx.hb cx.hf (show cx.names.lookup x = _ by rw [nO hn]; exact hx) hd
noncomputable def fB1 (fa : St → Option (AV × St)) (op : AV → St → Option (AV × St)) (σ : St) : Option (AV × St) := fa σ >>= fun q => op q.1 q.2
theorem se_b1 {x : Str} {id : String} {xp pos : Pos} {a : PySem.Expr} {fa : St → Option (AV × St)} {op : AV → St → Option (AV × St)} (hop : Op0 ns id op) (hx : ns.names.lookup x = some .globalImplicit) (hnone : ∀ P,nsIn (hd.heap_1 P) mainGlobals x = some none) (hb : bootBuiltins x = some (.builtin id))
  (hd : (x == ("__debug__" : Str)) = false) (h1 : x ≠ "__name__") (ha : SE ns a fa)
  (hev : ∀ env,eval (.Call (.Name x xp) [a] [] pos) env = (do callWith pos (← eval (.Name x xp) env) [] (backTo pos (starEach [a] env)) (backToKw pos (keywordEach [] env))) := by intro _; with_unfolding_all rfl)
  (hst : ∀ env,starEach [a] env = (false,eval a env) :: starEach [] env := by intro _; with_unfolding_all rfl) : SE ns (.Call (.Name x xp) [a] [] pos) (fB1 fa op) := by
 refine ⟨?_⟩
 intro cx hn σ v σ' hf r s R Q E hq
 obtain ⟨⟨xv,σ1⟩,e1,e2⟩ := bS hf
 refine Call_ (bname hn hx hnone hb hd h1 R ?_) (hev _)
 refine PyProof.Rows.callWith_builtin1 ?_ (hst _) rfl
 refine args_cons (ha.run cx hn _ _ _ e1 r s R _ _ fun r1 s1 cv g1 R1 rv => args_nil ?_) (hst _)
 exact hop cx r1 σ1 s1 xv cv v σ' hn R1 rv e2 _ _ fun r2 s2 cw g2 R2 rw => hq r2 s2 cw (g1.trans g2) R2 rw
theorem se_t1 {x : Str} {T : String} {xp pos : Pos} {a : PySem.Expr} {fa : St → Option (AV × St)} {op : AV → St → Option (AV × St)} (hop : OpT ns T op) (hx : ns.names.lookup x = some .globalImplicit) (hnone : ∀ P,nsIn (hd.heap_1 P) mainGlobals x = some none) (hb : bootBuiltins x = some (.type T))
  (hd : (x == ("__debug__" : Str)) = false) (h1 : x ≠ "__name__") (ha : SE ns a fa)
  (hev : ∀ env,eval (.Call (.Name x xp) [a] [] pos) env = (do callWith pos (← eval (.Name x xp) env) [] (backTo pos (starEach [a] env)) (backToKw pos (keywordEach [] env))) := by intro _; with_unfolding_all rfl)
  (hst : ∀ env,starEach [a] env = (false,eval a env) :: starEach [] env := by intro _; with_unfolding_all rfl) : SE ns (.Call (.Name x xp) [a] [] pos) (fB1 fa op) := by
 refine ⟨?_⟩
 intro cx hn σ v σ' hf r s R Q E hq
 obtain ⟨⟨xv,σ1⟩,e1,e2⟩ := bS hf
 refine Call_ (bname hn hx hnone hb hd h1 R ?_) (hev _)
 refine PyProof.Rows.callWith_type1 ?_ (hst _) rfl
 refine args_cons (ha.run cx hn _ _ _ e1 r s R _ _ fun r1 s1 cv g1 R1 rv => args_nil ?_) (hst _)
 exact hop cx r1 σ1 s1 xv cv v σ' hn R1 rv e2 _ _ fun r2 s2 cw g2 R2 rw => hq r2 s2 cw (g1.trans g2) R2 rw
noncomputable def lenV (o : AV) (σ : St) : Option (AV × St) := match o with
 | .tp xs => if xs.length < 1000 then some (.int xs.length,σ) else none
 | .fl xs => if xs.length < 1000 then some (.int xs.length,σ) else none
 | .ref n => (match σ.heap[n]? with
  | some (.list xs,_) => if xs.length < 1000 then some (.int xs.length,σ) else none
  | _ => none)
 | _ => none
set_option tactic.hygienic true in
theorem op_len : Op0 ns "len" lenV := by
 intro cx r σ s ov co v σ' hn R ro h Q E hq
 unfold lenV at h
 have fin : ∀ {vs : List Value} {xs : List AV},vs.length = xs.length → (PV cx r σ s (.int xs.length) σ Q) → Q (.int vs.toArray.size (s.toks + 1)) { s with toks := s.toks + 1 + 1 } := fun hl hq => by
  rw [List.size_toArray,hl]
  exact hq r _ _ .same R.tok (.int _ _)
 split at h
 ·refine ifM h fun _ h => ?_
  replace hq := hq.eq h
  obtain ⟨b,ws,rfl,hk,hlen,hall⟩ := ro.tp_inv
  exact len_tuple (R.kt hk) (by rw [List.size_toArray]; omega) (fin hlen hq)
 ·refine ifM h fun _ h => ?_
  replace hq := hq.eq h
  obtain ⟨b,ws,rfl,hk,hlen,hall⟩ := ro.fl_inv
  exact Calls.call_len_list (R.kl hk) (by rw [List.size_toArray]; omega) (fin hlen hq)
 ·rename_i n
  refine listM h fun xs k hh h => ?_
  refine ifM h fun _ h => ?_
  replace hq := hq.eq h
  obtain ⟨a,rfl,hγ⟩ := ro.ref_inv
  obtain ⟨es,h5,h6⟩ := R.idx hγ hh
  obtain ⟨vs,nn,rfl,h7⟩ := h6.list_inv
  exact Calls.call_len_list ⟨_,R.get h5 (.head _),rfl,nn,rfl⟩ (by rw [List.size_toArray,h7.1]; omega) (fin h7.1 hq)
 ·cases h
noncomputable def tupV (o : AV) (σ : St) : Option (AV × St) := match o with
 | .ref n => (match σ.heap[n]? with
  | some (.list xs,_) => if xs.length < 1000 then some (.tp xs,σ) else none
  | _ => none)
 | _ => none
theorem op_tuple : OpT ns "tuple" tupV := by
 intro cx r σ s ov co v σ' hn R ro h Q E hq
 refine refM h fun n eM h => ?_
 subst eM
 refine listM h fun xs k hh h => ?_
 refine ifM h fun hlt h => ?_
 replace hq := hq.eq h
 obtain ⟨a,rfl,hγ⟩ := ro.ref_inv
 obtain ⟨es,h5,h6⟩ := R.idx hγ hh
 obtain ⟨vs,nn,rfl,h7⟩ := h6.list_inv
 refine kde_tupleOf R.F R.N ⟨_,R.get h5 (.head _),rfl,nn,rfl⟩ (by rw [List.size_toArray,h7.1]; lia) (zs := vs) rfl fun D h' F' N' hl => ?_
 obtain ⟨R',g'⟩ := R.fzn F' N' hl (tk := s.toks)
 exact hq _ _ _ g' R' (.tp D vs xs (.inr ⟨_,.head _⟩) h7.1 (h7.later g'.toLater).2)
noncomputable def listV (o : AV) (σ : St) : Option (AV × St) := match o with
 | .tp xs => if xs.length < 1000 then some (.ref σ.heap.length,{ σ with heap := σ.heap ++ [(.list xs,0)] }) else none
 | _ => none
theorem RVs.osn {a : Addr} {es : Led} {vs : List Value} {xs : List AV} (h : RVs r.K r.γ vs xs) : RVs r.K (r.γ ++ [a]) vs xs :=
 ⟨h.1,fun i v x e f => (h.2 i v x e f).mono (fun _ _ q => q) (fun _ _ q => q) (fun _ _ q => q) fun _ _ q => pre_get q⟩
theorem osn_get {α : Type} {h : List α} {os : List (Addr × Led)} {a : Addr} {es : Led} (e : h.length = os.length) : (List.map Prod.fst (os ++ [(a,es)]))[h.length]? = some a := by
 rw [e,List.map_append,List.getElem?_append_right (by simp)]
 simp
theorem Rel.newList (R : Rel cx r σ s) (tm : cx.tm = true) {a : Addr} {vs : List Value} {xs : List AV} {n : Nat} (h7 : RVs r.K r.γ vs xs) {h' : Heap} {tk : Nat} (F' : Fr r.K.h0 cx.L h' r.m) (N' : News r.K.h0 cx.L h' ((a,W.listOf vs.toArray n) :: (r.mu cx ++ (r.K.fz ++ r.it)))) (hl : ∀ p ∈ r.mu cx ++ (r.K.fz ++ r.it),p.1 < a) {Q : Value → Shared → Prop}
  (hq : PV cx r σ s (.ref σ.heap.length) { σ with heap := σ.heap ++ [(.list xs,0)] } Q) : Q (.ref a) { s with heap := h',toks := tk } := by
 obtain ⟨R',g'⟩ := R.osn tm (a := a) (es := [(a,W.listOf vs.toArray n)]) F' N' (fun p hp q hq => by rw [List.mem_singleton.mp hq]; exact Nat.ne_of_lt (hl p hp)) (by simp) (ao := .list xs) (.list _ _ _ _ (h7.osn (es := []))) (tk := tk)
 refine hq _ _ _ g' R' (.ref _ _ ?_)
 exact osn_get R.len
set_option tactic.hygienic true in
theorem op_list (tm : Tm ns) : OpT ns "list" listV := by
 intro cx r σ s ov co v σ' hn R ro h Q E hq
 unfold listV at h
 split at h
 ·rename_i xs
  refine ifM h fun _ h => ?_
  replace hq := hq.eq h
  obtain ⟨b,ws,rfl,hk,hlen,hall⟩ := ro.tp_inv
  refine list_copyKT R.F R.N (R.kt hk) (fun D c h' F' N' hl => ?_) (by rw [List.size_toArray,hlen,sizeLine_eq]; lia)
  exact R.newList (tmOf hn tm) (xs := xs) (tk := s.toks) ⟨hlen,hall⟩ F' N' hl hq
 ·cases h
noncomputable def fList (fa : St → Option (List AV × St)) (σ : St) : Option (AV × St) := fa σ >>= fun q => if q.1.length < 1000 then some (.ref q.2.heap.length,{ q.2 with heap := q.2.heap ++ [(.list q.1,0)] }) else none
theorem se_list {es : List PySem.Expr} {pos : Pos} {fa : St → Option (List AV × St)} (tm : Tm ns) (h : SA ns es fa) : SE ns (.List es pos) (fList fa) := by
 refine ⟨?_⟩
 intro cx hn σ v σ' hf r s R Q E hq
 obtain ⟨⟨xs,σ1⟩,e1,e2⟩ := bS hf
 refine ifM e2 fun _ e2 => ?_
 replace hq := hq.eq e2
 refine List_ (h.run cx hn _ _ _ e1 r s R _ _ _ fun r1 s1 vs g1 R1 rv => ?_)
 refine newList_K R1.F R1.N (fun l h' F' N' hl => ?_) (by rw [rv.1,sizeLine_eq]; lia)
 exact R1.newList (tmOf hn tm) (xs := xs) (tk := s1.toks) rv F' N' hl fun r2 s2 cv g2 R2 rv2 => hq r2 s2 cv (g1.trans g2) R2 rv2
theorem Rel.newObj (R : Rel cx r σ s) (tm : cx.tm = true) {a : Addr} {o : Obj} {ao : AO} (hro : RO prg cx.w r.K (r.γ ++ [a]) a ao [(a,o)]) {h' : Heap} {tk : Nat} (F' : Fr r.K.h0 cx.L h' r.m) (N' : News r.K.h0 cx.L h' ((a,o) :: (r.mu cx ++ (r.K.fz ++ r.it)))) (hl : ∀ p ∈ r.mu cx ++ (r.K.fz ++ r.it),p.1 < a) {Q : Value → Shared → Prop}
  (hq : PV cx r σ s (.ref σ.heap.length) { σ with heap := σ.heap ++ [(ao,0)] } Q) : Q (.ref a) { s with heap := h',toks := tk } := by
 obtain ⟨R',g'⟩ := R.osn tm (a := a) (es := [(a,o)]) F' N' (fun p hp q hq => by rw [List.mem_singleton.mp hq]; exact Nat.ne_of_lt (hl p hp)) (by simp) hro (tk := tk)
 refine hq _ _ _ g' R' (.ref _ _ ?_)
 exact osn_get R.len
noncomputable def fNew (ao : AO) (σ : St) : Option (AV × St) := some (.ref σ.heap.length,{ σ with heap := σ.heap ++ [(ao,0)] })
theorem se_dict {pos : Pos} (tm : Tm ns) : SE ns (.Dict [] [] pos) (fNew (.dict [])) := by
 refine ⟨?_⟩
 intro cx hn σ v σ' hf r s R Q E hq
 replace hq := hq.eq hf
 refine newDict_K R.F R.N R.T.nolimit fun d h' o F' N' hl hs _ _ hd _ => ?_
 exact R.newObj (tmOf hn tm) (ao := .dict []) (tk := s.toks) (.dict _ _ [] [] hd hs rfl ⟨rfl,fun i a b e => by simp at e⟩) F' N' hl hq
theorem se_set {x : Str} {xp pos : Pos} (tm : Tm ns) (hx : ns.names.lookup x = some .globalImplicit) (hnone : ∀ P,nsIn (hd.heap_1 P) mainGlobals x = some none) (hb : bootBuiltins x = some (.type "set")) (hd : (x == ("__debug__" : Str)) = false) (h1 : x ≠ "__name__")
  (hev : ∀ env,eval (.Call (.Name x xp) [] [] pos) env = (do callWith pos (← eval (.Name x xp) env) [] (backTo pos (starEach [] env)) (backToKw pos (keywordEach [] env))) := by intro _; with_unfolding_all rfl) : SE ns (.Call (.Name x xp) [] [] pos) (fNew (.set [])) := by
 refine ⟨?_⟩
 intro cx hn σ v σ' hf r s R Q E hq
 replace hq := hq.eq hf
 refine Call_ (bname hn hx hnone hb hd h1 R ?_) (hev _)
 refine callWith_type0 ?_
 refine kse_new R.F R.N fun D h' led F' N' hl hs _ => ?_
 exact R.newObj (tmOf hn tm) (ao := .set []) (tk := s.toks) (.set _ _ _ _ [] hs (Nat.le_refl _) fun _ => rfl) F' N' hl hq
noncomputable def iterV (o : AV) (σ : St) : Option (AV × St) := match o with
 | .ref n => (match σ.heap[n]? with
  | some (.list _,_) => some (.ref σ.heap.length,{ σ with heap := σ.heap ++ [(.iter n 0,0)] })
  | _ => none)
 | _ => none
theorem op_iter (tm : Tm ns) : Op0 ns "iter" iterV := by
 intro cx r σ s ov co v σ' hn R ro h Q E hq
 refine refM h fun n eM h => ?_
 subst eM
 refine listM h fun xs k hh h => ?_
 replace hq := hq.eq h
 obtain ⟨a,rfl,hγ⟩ := ro.ref_inv
 obtain ⟨es,h5,h6⟩ := R.idx hγ hh
 obtain ⟨vs,nn,rfl,h7⟩ := h6.list_inv
 refine iter_listN R.F R.N (vs := vs) ⟨_,R.get h5 (.head _),rfl,nn,rfl⟩ fun I h' F' N' hl => ?_
 exact R.newObj (tmOf hn tm) (ao := .iter n 0) (tk := s.toks) (.iter _ _ _ _ (pre_get hγ)) F' N' hl hq
noncomputable def nextV (o : AV) (σ : St) : Option (AV × St) := match o with
 | .ref n => (match σ.heap[n]? with
  | some (.iter _ _,_) => some (.nxt n,σ)
  | _ => none)
 | _ => none
theorem se_next {o : PySem.Expr} {pos : Pos} {fo : St → Option (AV × St)} (tm : Tm ns) (ho : SE ns o fo)
  (hev : ∀ env,eval (.Attribute o (Str.ofString "__next__") pos) env = (do let v ← eval o env; standAt pos.atName; let r ← holding [v] (getAttr v (Str.ofString "__next__") true); letTemporaryGo o v r; pure r) := by intro _; with_unfolding_all rfl) :
  SE ns (.Attribute o (Str.ofString "__next__") pos) (fun σ => fo σ >>= fun p => nextV p.1 p.2) := by
 refine ⟨?_⟩
 intro cx hn σ v σ' hf r s R Q E hq
 obtain ⟨⟨a,σ1⟩,h1,h2⟩ := bS hf
 refine Attribute_any_ (ho.run cx hn _ _ _ h1 r s R _ _ fun r1 s1 ca g1 R1 ra => ?_) (hev _)
 refine refM h2 fun n eM h2 => ?_
 subst eM
 refine iterM h2 fun l p k hh h2 => ?_
 replace hq := hq.eq h2
 obtain ⟨a,rfl,hγ⟩ := ra.ref_inv
 obtain ⟨es,h5,h6⟩ := R1.idx hγ hh
 obtain ⟨la,rfl,h7⟩ := h6.iter_inv
 refine attr_nextN R1.F R1.N (mL _ (ento (tmOf hn tm) h5 (.head _))) fun D h' F' N' hl => ?_
 obtain ⟨R',g'⟩ := R1.fzn F' N' hl (tk := s1.toks + 1)
 exact hq _ _ _ (g1.trans g') R' (.nxt D a n hγ (.inr (.head _)))
end
section
variable {ns : Sig} {cx : Cx} {r : Rt} {σ : St} {s : Shared}
noncomputable def truthV (v : AV) (σ : St) : Option Bool := match v with
 | .none => some false
 | .bool b => some b
 | .ref n => (match σ.heap[n]? with
  | some (.list xs,_) => if xs.length < 1000 then some (!xs.isEmpty) else none
  | _ => none)
 | _ => none
theorem truthM {β : Type} {y : β} {P : Prop} {a : AV} {A : Option β} {B : Bool → Option β} {C : Nat → Option β} (h : (match a with | .none => A | .bool b => B b | .ref n => C n | _ => none) = some y) (k1 : a = .none → A = some y → P) (k2 : ∀ b,a = .bool b → B b = some y → P) (k3 : ∀ n,a = .ref n → C n = some y → P) : P := by
 cases a with
 | none => exact k1 rfl h
 | bool b => exact k2 b rfl h
 | ref n => exact k3 n rfl h
 | _ => exact noneE h
theorem truthV_ok {v : AV} {b : Bool} (h : truthV v σ = some b) (R : Rel cx r σ s) {cv : Value} (hv : RV r.K r.γ cv v) {Q : Bool → Shared → Prop} {E : Value → Shared → Prop} (hq : ∀ s',Go cx r σ s r σ s' → Rel cx r σ s' → Q b s') : wpAny (model prg cx.w) cx.A (truthy cv) Q E s := by
 unfold truthV at h
 refine truthM h ?_ ?_ ?_
 all_goals clear h
 ·intro e h
  subst e
  cases h; obtain rfl := hv.none_inv; exact truthy_none (hq _ .refl R)
 ·intro b' e h
  subst e
  cases h; obtain rfl := hv.bool_inv; exact wpAny_truthy_bool (hq _ .refl R)
 ·intro n e h
  subst e
  refine listM h fun xs k hh h => ?_
  refine ifM h fun _ h => ?_
  cases h
  obtain ⟨a,rfl,hγ⟩ := hv.ref_inv
  obtain ⟨es,h5,h6⟩ := R.idx hγ hh
  obtain ⟨vs,nn,rfl,h7⟩ := h6.list_inv
  refine wpAny_truthy_list ⟨_,R.get h5 (.head _),rfl,nn,rfl⟩ (by rw [List.size_toArray,h7.1]; omega) ?_
  have : (!vs.toArray.isEmpty) = !xs.isEmpty := by
   have := h7.1
   cases vs <;> cases xs <;> first | rfl | (simp at this)
  rw [this]
  exact hq _ .same R.tok
theorem st_plain {e : PySem.Expr} {f : St → Option (AV × St)} (h : SE ns e f) (hi : ∀ env,isTrue e env (eval e env) = (do let v ← eval e env; standAt e.pos; holding [v] (truthy v)) := by intro _; with_unfolding_all rfl) :
  ST ns e (fun σ => f σ >>= fun p => (truthV p.1 p.2).map fun b => (b,p.2)) := by
 refine ⟨?_⟩
 intro cx hn σ v σ' hf r s R Q E hq
 obtain ⟨⟨a,σ1⟩,h1,h2⟩ := bS hf
 refine isTrue_plain (h.run cx hn _ _ _ h1 r s R _ _ fun r1 s1 ca g1 R1 ra => ?_) (hi _)
 cases e : truthV a σ1 with
 | none => rw [e] at h2; cases h2
 | some b =>
  rw [e] at h2; replace hq := hq.eq h2
  exact truthV_ok e R1 ra fun s2 g2 R2 => hq r1 s2 (g1.trans g2) R2
noncomputable def whileS (ft : St → Option (Bool × St)) (fb fo : St → Option (AF × St)) : Nat → St → Option (AF × St)
 | 0,_ => none
 | n + 1,σ => ft σ >>= fun p => if p.1 then fb p.2 >>= fun q => match q.1 with
   | .next => whileS ft fb fo n q.2
   | .cont => whileS ft fb fo n q.2
   | .brk => some (.next,q.2)
   | .ret v => some (.ret v,q.2)
  else fo p.2
theorem ss_while {t : PySem.Expr} {b o : List Stmt} {pos : Pos} {ft : St → Option (Bool × St)} {fb fo : St → Option (AF × St)} (fuel : Nat) (ht : ST ns t ft) (hb : SB ns b fb) (ho : SB ns o fo) : SS ns (.While t b o pos) (whileS ft fb fo fuel) := by
 refine ⟨?_⟩
 intro cx hn σ v σ' hf r s R Q E hq
 refine wpAny_While (codeAny_whileLoop (fun n s' => ∃ r' σ1,Rel cx r' σ1 s' ∧ Go cx r σ s r' σ1 s' ∧ whileS ft fb fo n σ1 = some (v,σ')) ?_ fuel ⟨r,σ,R,.refl,hf⟩)
 rintro n s' ⟨r',σ1,R1,g1,h1⟩
 cases n with
 | zero => cases h1
 | succ n =>
  obtain ⟨⟨c,σ2⟩,e1,e2⟩ := bS h1
  refine ht.run cx hn _ _ _ e1 r' s' R1 _ _ fun r2 s2 g2 R2 => ?_
  have g12 := g1.trans g2
  cases c with
  | true =>
   obtain ⟨⟨a,σ3⟩,e3,e4⟩ := bS e2
   refine hb.run cx hn _ _ _ e3 r2 s2 R2 _ _ fun r3 s3 cf g3 R3 rf => ?_
   cases rf with
   | next => exact ⟨n,Nat.lt_succ_self _,r3,σ3,R3,g12.trans g3,e4⟩
   | cont => exact ⟨n,Nat.lt_succ_self _,r3,σ3,R3,g12.trans g3,e4⟩
   | brk => cases e4; exact hq r3 s3 _ (g12.trans g3) R3 .next
   | ret w x h => cases e4; exact hq r3 s3 _ (g12.trans g3) R3 (.ret w x h)
  | false => exact ho.run cx hn _ _ _ e2 r2 s2 R2 _ _ fun r3 s3 cf g3 R3 rf => hq r3 s3 cf (g12.trans g3) R3 rf
noncomputable def rangeL (n : Nat) : List AV := (List.range n).map fun (i : Nat) => AV.int (i : Int)
noncomputable def fRange (fa : St → Option (AV × St)) (tg : AV → St → Option St) (fb : St → Option (AF × St)) (σ : St) : Option (AF × St) := fa σ >>= fun p => match p.1 with
 | .int n => if 0 ≤ n ∧ n ≤ 1000 then forS tg fb (fun _ => true) (rangeL n.toNat) p.2 else none
 | _ => none
theorem ss_range {x y : Str} {px py pr pos : Pos} {tg : AV → St → Option St} {a : PySem.Expr} {body : List Stmt} {fa : St → Option (AV × St)} {fb : St → Option (AF × St)} (ha : SE ns a fa) (hb : SB ns body fb) (hta : AS ns (.Name x px) tg) (hnd : ns.hand = true)
  (hy : ns.names.lookup y = some .globalImplicit) (hnone : ∀ P,nsIn (hd.heap_1 P) mainGlobals y = some none) (hbt : bootBuiltins y = some (.type "range")) (hdb : (y == ("__debug__" : Str)) = false) (h1 : y ≠ "__name__")
  (hev : ∀ env,eval (.Call (.Name y py) [a] [] pr) env = (do callWith pr (← eval (.Name y py) env) [] (backTo pr (starEach [a] env)) (backToKw pr (keywordEach [] env))) := by intro _; with_unfolding_all rfl)
  (hst : ∀ env,starEach [a] env = (false,eval a env) :: starEach [] env := by intro _; with_unfolding_all rfl)
  (hs : ∀ env z,foldedSetIterable (.Call (.Name y py) [a] [] pr) env z = pure z := by intro _ _; rfl) :
  SS ns (.For (.Name x px) (.Call (.Name y py) [a] [] pr) body [] pos) (fRange fa tg fb) := by
 refine ⟨?_⟩
 intro cx hn σ v σ' hf r s R Q E hq
 obtain ⟨⟨av,σ1⟩,e1,e2⟩ := bS hf
 refine intM e2 fun n eM e2 => ?_
 subst eM
 refine ifM e2 fun hc e2 => ?_
 refine For_stop (Call_ (bname hn hy hnone hbt hdb h1 R ?_) (hev _)) (hs _)
 refine PyProof.Rows.callWith_type1 ?_ (hst _) rfl
 refine args_cons (ha.run cx hn _ _ _ e1 r s R _ _ fun r1 s1 ca g1 R1 ra => args_nil ?_) (hst _)
 subst hn
 have hd' : cx.hand = true := hnd
 obtain ⟨ta,rfl⟩ := ra.int_inv
 refine range1_rows R1.F R1.N fun h' tk t1 u1 v1 hr F' N' _ => Stop.mk ?_
 have R2 := R1.fn F' N' (tk := tk)
 obtain ⟨hsmall,hsize⟩ := small_range (Int.le_refl 0) hc.1 hc.2
 refine wpAny_pyIter_range hr hsmall ?_
 obtain ⟨fI,f0,fr⟩ := R2.fresh
 have W := Walks.range (prog := prg) (w := cx.w) (cx.hh hd') h'.objs.size 0 1 n.toNat
 have hlen : (rangeL n.toNat).length = n.toNat := by unfold rangeL; rw [List.length_map,List.length_range]
 rw [← hlen] at W
 refine for_walk hb hta (fun _ _ _ _ _ _ _ h => wpAny_pure h) W (fun i v hi hv => ?_) (R2.keep (tk := tk) fun b o e => Heap.get?_push_of_some _ e) fI f0 fr ?_ (fun i h st => ⟨_,st⟩) rfl (fun i r' σ2 s' h R' g' c st e => e.symm.trans st) e2 fun r' s' cf g' R' rf => hq r' s' cf (g1.trans ((Go.same (cx := cx)).trans g')) R' rf
 ·obtain ⟨t,rfl⟩ := hv
  rw [hlen] at hi
  refine ⟨.int (i : Int),?_,?_⟩
  ·unfold rangeL; rw [List.getElem?_map,List.getElem?_range hi]; rfl
  ·rw [Int.mul_one,Int.zero_add]; exact .int _ _
 ·show IsRangeIter _ _ (0 + ((0 : Nat) : Int) * 1) (((rangeL n.toNat).length : Int) - ((0 : Nat) : Int)) 1
  have e1 : (0 : Int) + ((0 : Nat) : Int) * 1 = 0 := by exact rfl
  have e2 : (((rangeL n.toNat).length : Nat) : Int) - ((0 : Nat) : Int) = (n - 0).toNat := by rw [hlen]; simp
  rw [e1,e2,← hsize]
  exact Heap.get?_push_size _ rfl
end
theorem envC_plain {qual : Str} {scope : Scope} {L f : Addr} {cd : Value} (h : ∀ x ∈ scope.names,x.2 ≠ .cell) : envOfC qual scope L f cd = envOf qual scope L f cd := by
 have : ∀ {names : List (Str × NameKind)} {n : Nat} {acc : List (Str × Addr)},(∀ x ∈ names,x.2 ≠ .cell) → cellsFrom n names acc = acc := by
  intro names
  induction names with
  | nil => intros; rfl
  | cons y r ih =>
   intro n acc h
   obtain ⟨y,k⟩ := y
   unfold cellsFrom
   rw [if_neg (by have := h _ (.head _); simpa using this)]
   exact ih fun x hx => h x (.tail _ hx)
 unfold envOfC envOf
 rw [this h]
theorem own_plain {names : List (Str × NameKind)} {n : Nat} (h : ∀ x ∈ names,x.2 ≠ .cell) : ownOf n names = [] := by
 cases e : ownOf n names with
 | nil => rfl
 | cons q r =>
  have : q ∈ ownOf n names := by rw [e]; exact .head _
  exact absurd rfl (h _ (ownOf_mem this).2)
theorem plain_own {names : List (Str × NameKind)} {n : Nat} (h : ownOf n names = []) : ∀ x ∈ names,x.2 ≠ .cell := by
 intro x hx e
 have h1 := ownOf_fst names n
 rw [h] at h1
 have : x.1 ∈ ownN names := List.mem_map_of_mem (List.mem_filter.mpr ⟨hx,by simp [e]⟩)
 rw [← h1] at this
 cases this
section
variable {prog : Program} {w : World} {A : Around} {E : Value → Shared → Prop} {s : Shared} {q it l : Addr} {vs : List Value} {i : Nat} {Q : Value → Shared → Prop}
theorem callWith_mwI {env : Env} {pos : Pos} (hq : IsMw s.heap q it) (h : wpAny (model prog w) A (call (.ref q) []) Q E s) : wpAny (model prog w) A (callWith pos (.ref q) [] (backTo pos (starEach [] env)) []) Q E s := by
 obtain ⟨⟨c,db,d,sb⟩,ho,hc,hd⟩ := hq
 dsimp only at hc hd
 subst hc hd
 exact callWith_of (P := fun h => h.get? q = some ⟨.type "method-wrapper",db,.fields #[.builtin "list_iterator.__next__",.ref it],sb⟩) rfl (fun h hx => ⟨.machine,.inr (.inl rfl),(Looks.ld (part := none) hx).andThen .now⟩) (evalArgs_nil3 ⟨ho,h⟩)
theorem call_mwI (hq : IsMw s.heap q it) (h : wpAny (model prog w) (A.under (.builtin "list_iterator.__next__" ⟨[.ref it],[]⟩)) (Builtin.«list_iterator.__next__» ⟨[.ref it],[]⟩) (fun fin s' => match fin with | .done (.ret v) => Q v s' | _ => False) E s) :
  wpAny (model prog w) A (call (.ref q) []) Q E s := by
 obtain ⟨⟨c,db,d,sb⟩,ho,hc,hd⟩ := hq
 dsimp only at hc hd
 subst hc hd
 refine wpAny_call (codeAny_of_tree ?_)
 show wpAny _ A.in1 (callAny (.ref q) ⟨[],[]⟩) _ _ s
 simp only [callAny]
 refine wpAny_bind (wpAny_load ho ?_)
 simp only [show (Value.type "method-wrapper" == Value.type "method" || Value.type "method-wrapper" == Value.type "builtin_function_or_method" || Value.type "method-wrapper" == Value.type "method-wrapper") = true by decide,if_true]
 show wpAny _ _ (checkBoundCall "list_iterator.__next__" { pos := [Value.ref it] } >>= fun _ => again (Code.builtin "list_iterator.__next__" { pos := [Value.ref it] })) _ _ s
 refine wpAny_bind (wpAny_of_eq (a := ()) (check_mw it) ?_)
 refine wpAny_pure ?_
 refine ⟨Code.quiet_builtin _ (by decide +kernel),codeAny_builtin entry_listiter_next (wpAny_mono h (fun fin s' z => ?_) fun _ _ z => z)⟩
 rcases fin with (_ | _ | _ | _) | _ <;> first | exact z | exact z.elim
theorem mw_itemI (hq : IsMw s.heap q it) (hit : s.heap.get? it = some (itO l i)) (hl : s.heap.IsList l vs.toArray) {v : Value} (hx : vs[i]? = some v)
  (hQ : ∀ h',Heap.SameBut it s.heap h' → h'.get? it = some (itO l (i + 1)) → Q v { s with heap := h' }) : wpAny (model prog w) A (call (.ref q) []) Q E s := by
 obtain ⟨ol,hol,_,nl,hdl⟩ := hl
 refine call_mwI hq ?_
 show wpAny _ _ (field (.ref it) 0 >>= _) _ _ s
 refine wpAny_bind (wpAny_field hit rfl (x := .ref l) rfl ?_)
 show wpAny _ _ (if (Value.ref l == Value.none) = true then _ else _) _ _ s
 rw [if_neg (show ¬ ((Value.ref l == Value.none) = true) from Bool.false_ne_true)]
 show wpAny _ _ (field (.ref it) 1 >>= _) _ _ s
 refine wpAny_bind (wpAny_field hit rfl (x := .int i 0) rfl ?_)
 show wpAny _ _ (seqItems? (.ref l) >>= _) _ _ s
 refine wpAny_bind (wpAny_seqItems hol hdl ?_)
 simp only [Int.toNat_natCast,List.getElem?_toArray,hx]
 refine wpAny_bind (wpAny_setField hit rfl (by show 1 < 2; decide) (wpAny_pure (hQ _ (Heap.SameBut.update ..) ?_)))
 exact Heap.get?_update_self _ hit rfl
theorem mw_endI (hh : A.handled = none) (hq : IsMw s.heap q it) (hit : s.heap.get? it = some (itO l i)) (hl : s.heap.IsList l vs.toArray) (hx : vs[i]? = none)
  (hE : ∀ h₁ h' e,Heap.SameBut it s.heap h₁ → h₁.get? it = some (itEnd i) → Heap.MadeExc h₁ h' e "StopIteration" [] → E (.ref e) { s with heap := h' }) : wpAny (model prog w) A (call (.ref q) []) Q E s := by
 obtain ⟨ol,hol,_,nl,hdl⟩ := hl
 refine call_mwI hq ?_
 show wpAny _ _ (field (.ref it) 0 >>= _) _ _ s
 refine wpAny_bind (wpAny_field hit rfl (x := .ref l) rfl ?_)
 show wpAny _ _ (if (Value.ref l == Value.none) = true then _ else _) _ _ s
 rw [if_neg (show ¬ ((Value.ref l == Value.none) = true) from Bool.false_ne_true)]
 show wpAny _ _ (field (.ref it) 1 >>= _) _ _ s
 refine wpAny_bind (wpAny_field hit rfl (x := .int i 0) rfl ?_)
 show wpAny _ _ (seqItems? (.ref l) >>= _) _ _ s
 refine wpAny_bind (wpAny_seqItems hol hdl ?_)
 simp only [Int.toNat_natCast,List.getElem?_toArray,hx]
 refine wpAny_bind (wpAny_rule (wpAny_bind (wpAny_setField hit rfl (by show 0 < 2; decide) ?_)))
 show wpAny _ _ (newExc (.type "StopIteration") [] >>= _) _ _ _
 refine wpAny_bind ?_
 simp only [newExc,newTuple]
 refine wpAny_bind (wpAny_newObj_type ?_ (by size_fits))
 refine wpAny_bind (m := firstArgMember _ _) (wpAny_of_eq (a := Value.none) (by first | rfl | (simp only [firstArgMember]; rfl)) ?_)
 refine wpAny_newObj_type ?_ (by size_fits)
 simp only [raiseNew]
 refine wpAny_bind (wpAny_handled ?_)
 rw [show (A.under (.builtin "list_iterator.__next__" ⟨[.ref it],[]⟩)).handled = none from hh]
 refine wpAny_bind (wpAny_pure (wpAny_throw ?_))
 refine hE (s.heap.update it (Obj.mapFields (·.setIfInBounds 0 .none))) _ _ (Heap.SameBut.update ..) (Heap.get?_update_self _ hit rfl) ?_
 have none_at : ∀ (H : Heap) (b : Addr),H.objs.size ≤ b → H.get? b = none := fun H b hb => by
  cases q : H.get? b with
  | none => rfl
  | some o => exact absurd (Heap.lt_size q) (Nat.not_lt.mpr hb)
 refine ⟨fun b o e => Heap.get?_push_of_some _ (Heap.get?_push_of_some _ e),none_at _ _ (by rw [Heap.size_push]; exact Nat.le_succ _),⟨_,Heap.get?_push_size _ rfl,none_at _ _ (Nat.le_refl _),Heap.get?_push_of_some _ (Heap.get?_push_size _ rfl)⟩⟩
end
noncomputable def Cx.mk! (cx : Cx) (e : Addr) : Cx := { cx with A := cx.A.mark (some (.ref e)),hand := false,fn := false,hfn := fun q => absurd q (by decide),sG := fun _ q => Bool.noConfusion q,hh := fun q => absurd q (by decide),hk := cx.hk,gB := fun h0 h m g F => let b := cx.gB h0 h m g F; ⟨b.stack,b.stays,b.frames⟩ }
section
variable {ns : Sig} {cx : Cx} {r : Rt} {σ : St} {s : Shared}
theorem Rel.mk! {e : Addr} (R : Rel cx r σ s) : Rel (cx.mk! e) r σ s := ⟨⟨R.nd,R.dj,R.di,R.pl,R.lv,R.G,R.kh,R.E,R.len,R.H,R.cc⟩,R.F,R.N⟩
theorem Rel.un! {e : Addr} (R : Rel (cx.mk! e) r σ s) : Rel cx r σ s := ⟨⟨R.nd,R.dj,R.di,R.pl,R.lv,R.G,R.kh,R.E,R.len,R.H,R.cc⟩,R.F,R.N⟩
theorem Go.un! {e : Addr} {r' : Rt} {σ' : St} {s' : Shared} (g : Go (cx.mk! e) r σ s r' σ' s') : Go cx r σ s r' σ' s' := ⟨⟨g.K,g.γ,g.tn⟩,⟨g.ver,g.it,g.cs⟩,g.S,g.os⟩
theorem Rel.ground (R : Rel cx r σ s) {g' : Heap} {h' : Heap} {tk : Nat} (G' : cx.G g') (T : cx.Tn r.K.h0 g') (F' : Fr g' cx.L h' r.m) (N' : News g' cx.L h' (r.mu cx ++ (r.K.fz ++ r.it))) (tm : cx.tm = true) :
  Rel cx { r with K := { r.K with h0 := g' } } σ { s with heap := h',toks := tk } ∧ Go cx r σ s { r with K := { r.K with h0 := g' } } σ { s with heap := h',toks := tk } := by
 have L : Later cx r { r with K := { r.K with h0 := g' } } := ⟨⟨fun _ h => h,rfl,cx.tl _ _ T⟩,⟨[],(List.append_nil _).symm⟩,T⟩
 refine ⟨⟨⟨R.nd,R.dj,R.di,R.pl,(fun q => absurd (tm.symm.trans q) (by decide)),G',fun a h => ?_,fun k av e => ?_,R.len,fun i ao n e => ?_,R.cc⟩,F',N'⟩,L,⟨fun j ao n h => ⟨ao,n,h,Nat.le_refl _,fun _ => rfl⟩,rfl,rfl⟩,cx.sS ..,fun _ => ⟨rfl,rfl⟩⟩
 ·obtain ⟨o,ho⟩ := R.kh a h
  obtain ⟨sl,h2⟩ := cx.tl _ _ T _ _ ho
  exact ⟨_,h2⟩
 ·obtain ⟨x,kd,v,h1,h2,h3,h4⟩ := R.E k av e
  refine ⟨x,kd,v,h1,h2,?_,h4.later L⟩
  rcases h3 with h3 | ⟨rfl,c,o,hc,hco,ho⟩
  ·exact .inl h3
  ·rcases hco with hco | hco
   ·exact .inr ⟨rfl,c,o,hc,.inl hco,ho⟩
   ·obtain ⟨sl,h5⟩ := cx.tl _ _ T _ _ hco
    exact .inr ⟨rfl,c,_,hc,.inr h5,ho⟩
 ·obtain ⟨b,es,h1,h2⟩ := R.H i ao n e
  exact ⟨b,es,h1,h2.later L⟩
end
noncomputable def nextS (k : Nat) (fh : St → Option (AF × St)) (v : AV) (σ : St) : Option (AF × St) := match v with
 | .nxt n => (match σ.heap[n]? with
  | some (.iter l p,j) => (match σ.heap[l]? with
   | some (.list xs,_) => (match xs[p]? with
    | some y => some (.brk,setE k y (turn σ n (.iter l (p + 1)) j))
    | none => fh (turn σ n .dead j))
   | _ => none)
  | _ => none)
 | _ => none
section
variable {ns : Sig} {cx : Cx} {r : Rt} {σ : St} {s : Shared}
theorem Rel.upd1 (R : Rel cx r σ s) (hm : cx.tm = true) {i : Nat} {a : Addr} {o o' : Obj} (h : r.os[i]? = some (a,[(a,o)])) {h' : Heap} {tk : Nat} (hsb : Heap.SameBut a s.heap h') (ho : h'.get? a = some o') {ao0 ao : AO} {n0 : Nat} (ha : σ.heap[i]? = some (ao0,n0)) (hro : RO prg cx.w r.K r.γ a ao [(a,o')]) :
  Rel cx { r with os := repOs a o' r.os } (turn σ i ao n0) { s with heap := h',toks := tk } ∧ Go cx r σ s { r with os := repOs a o' r.os } (turn σ i ao n0) { s with heap := h',toks := tk } := by
 obtain ⟨pre,post,e1,hg,a',b'⟩ := (R.updF hm h (.head _)).split
 have z := R.N (a,o) (mL _ (ento hm h (.head _)))
 have N0 := R.N
 rw [e1] at N0
 have N' := hg _ ▸ N0.setIn a' b' hsb ho
 exact R.upd hm h (.head _) (R.F.change hsb z.2.1 z.2.2) N' ha (by rw [rep_one]; exact hro)
set_option maxHeartbeats 1000000 in
theorem ss_try {x : Str} {px pa pb pc ph np pos : Pos} {k : Nat} {c : PySem.Expr} {b₀ : Stmt} {suite : List Stmt} {fc : St → Option (AV × St)} {fh : St → Option (AF × St)} (hc : SE ns c fc) (hk : ns.names[k]? = some (x,.local)) (hx : ns.names.lookup x = some .local) (htm : ns.tm = true) (hhd : ns.hand = true)
  (hh : SB ⟨ns.names,ns.tm,false,false,ns.lim,ns.own,ns.cd⟩ (b₀ :: suite) fh) (hgl : ns.names.lookup (Str.ofString "StopIteration") = some .globalImplicit) (hfn : ns.fn = true) (hown : ns.own = [])
  (hs : ∀ env,swapsWith (.Call c [] [] pc) (some (.Name x px)) pa.line env = pure false)
  (hev : ∀ env,eval (.Call c [] [] pc) env = (do callWith pc (← eval c env) [] (backTo pc (starEach [] env)) (backToKw pc (keywordEach [] env))) := by intro _; with_unfolding_all rfl) :
  SS ns (.Try [.Assign [.Name x px] (.Call c [] [] pc) pa,.Break pb] [.ExceptHandler (some (.Name (Str.ofString "StopIteration") np)) none (b₀ :: suite) ph] [] [] pos) (fun σ => fc σ >>= fun p => nextS k fh p.1 p.2) := by
 refine ⟨?_⟩
 intro cx hn σ v σ' hf r s R Q E hq
 refine cx.hfnE (by rw [← hn] at hfn; exact hfn) fun A₀ outer name scope a0 cd henv how hA gO gK hstk => ?_
 have henv : cx.env = envOf name scope cx.L a0 cd := by
  rw [henv]
  refine envC_plain (plain_own (n := cx.L + 1) ?_)
  rw [← how]
  rw [← hn] at hown
  exact List.map_eq_nil_iff.mp hown
 have tm := tmOf hn htm
 obtain ⟨⟨cv,σ1⟩,e1,e2⟩ := bS hf
 refine wpAny_mono (Q := Q) (E := fun _ _ => False) ?_ (fun _ _ h => h) (fun _ _ h => h.elim)
 refine wpAny_Try_except ?_
 refine wpAny_execs_cons (wpAny_Assign_Name ?_ (hs _))
 refine Call_ (hc.run cx hn _ _ _ e1 r s R _ _ fun r1 s1 co g1 R1 ro => ?_) (hev _)
 refine nxtM e2 fun n eM e2 => ?_
 subst eM
 obtain ⟨q,it,rfl,hγ,hm⟩ := ro.nxt_inv
 refine iterM e2 fun l p j hh1 e2 => ?_
 obtain ⟨es,h5,h6⟩ := R1.idx hγ hh1
 obtain ⟨la,rfl,hla⟩ := h6.iter_inv
 refine listM e2 fun xs kk hh2 e2 => ?_
 obtain ⟨es2,h7,h8⟩ := R1.idx hla hh2
 obtain ⟨vs,nn,rfl,hv⟩ := h8.list_inv
 have hl : s1.heap.IsList la vs.toArray := ⟨_,R1.get h7 (.head _),rfl,nn,rfl⟩
 refine callWith_mwI (R1.km hm) ?_
 split at e2
 ·rename_i y hy
  replace hq := hq.eq e2
  obtain ⟨w,hw,rw⟩ := hv.get hy
  refine mw_itemI (R1.km hm) (R1.get h5 (.head _)) hl hw fun h' hsb hit => ?_
  obtain ⟨R2,g2⟩ := R1.upd1 tm h5 hsb hit hh1 (ao := .iter l (p + 1)) (.iter _ _ _ _ hla) (tk := s1.toks)
  refine store_ok R2 (by rw [nO hn]; exact hk) (by rw [nO hn]; exact hx) (rw.later g2.toLater) fun r3 s3 g3 R3 _ _ => ?_
  refine wpAny_execs_cons (wpAny_Break ?_)
  exact hq r3 s3 _ ((g1.trans g2).trans g3) R3 .brk
 ·rename_i hy
  have hw : vs[p]? = none := by
   rw [List.getElem?_eq_none_iff] at hy ⊢
   rw [hv.1]; exact hy
  refine mw_endI (hhOf hn hhd) (R1.km hm) (R1.get h5 (.head _)) hl hw fun h1 h' e hsb hit hMade => ?_
  obtain ⟨R2,g2⟩ := R1.upd1 tm h5 hsb hit hh1 (ao := .dead) (.dead _ _) (tk := s1.toks)
  rw [henv] at hA
  have key : ∀ (h2 g' : Heap),KtsTurn (frs outer) r1.K.h0 g' → Fr g' cx.L h2 r1.m → News g' cx.L h2 (Rt.mu { r1 with os := repOs it (itEnd p) r1.os } cx ++ (r1.K.fz ++ r1.it)) → Below A₀ cx.base outer g' →
    wpAny (model prg cx.w) (cx.A.mark (some (.ref e))) (execs (b₀ :: suite) cx.env) Q (fun _ _ => False) { s1 with heap := h2 } := by
   intro h2 g' T F' N' B'
   obtain ⟨G',Tn'⟩ := gK _ _ R2.G T B'
   obtain ⟨R3,g3⟩ := R2.ground (h' := h2) (tk := s1.toks) G' Tn' F' N' tm
   refine hh.run (cx.mk! e) (by rw [← hn]; rfl) _ _ _ e2 _ _ R3.mk! _ _ fun r4 s4 cf g4 R4 rf => ?_
   exact hq r4 s4 cf (((g1.trans g2).trans g3).trans g4.un!) R4.un! rf
  rw [henv,hA] at key
  rw [henv,hA]
  refine caught_made (X := "StopIteration") (x := Str.ofString "StopIteration") (T' := "StopIteration") (KF := hd.heap_1 cx.w.params) (gO _ R2.G) R2.F R2.N hMade cx.XB cx.TB (by kernel_rfl) PyProof.Rows.Boot.«StopIteration» (by decide) (by rw [isSubtype_type]; kernel_rfl) (by rw [isSubtype_type]; kernel_rfl) (by rw [isSubtype_type]; kernel_rfl)
   (fun h2 g' T F' N' B' _ _ => key h2 g' T F' N' B') ?_ ?_ (by decide) (.never)
  ·have := cx.hf; rw [henv] at this; exact this
  ·show List.lookup (Str.ofString "StopIteration") scope.names = some NameKind.globalImplicit
   have : cx.names.lookup (Str.ofString "StopIteration") = some NameKind.globalImplicit := by rw [nO hn]; exact hgl
   unfold Cx.names at this
   rw [henv] at this
   exact this
end
noncomputable def putA (kvs : List (Int × AV)) (k : Int) (v : AV) : List (Int × AV) := if kvs.any (fun p => decide (p.1 = k)) then kvs.map (fun p => if p.1 = k then (p.1,v) else p) else kvs ++ [(k,v)]
noncomputable def setI (o i x : AV) (σ : St) : Option St := match o,i with
 | .ref n,.int k => (match σ.heap[n]? with
  | some (.dict kvs,j) => if kvs.length < 1000 then some (turn σ n (.dict (putA kvs k x)) j) else none
  | _ => none)
 | _,_ => none
noncomputable def toPairs : List (Int × AV) → Option (List (Int × Int))
 | [] => some []
 | (k,.int v) :: r => (toPairs r).map ((k,v) :: ·)
 | _ :: _ => none
noncomputable def ofPairs (c : List (Int × Int)) : List (Int × AV) := c.map fun p => (p.1,.int p.2)
noncomputable def delI (o i : AV) (σ : St) : Option St := match o,i with
 | .ref n,.int k => (match σ.heap[n]? with
  | some (.dict kvs,j) => (match toPairs kvs with
   | some c => if c.length < 1000 ∧ kdfHas c k = true then some (turn σ n (.dict (ofPairs (kdyDel c k))) j) else none
   | none => none)
  | _ => none)
 | _,_ => none
section
variable {ns : Sig} {cx : Cx} {r : Rt} {σ : St} {s : Shared}
theorem any_keys {kvs : List (Int × Value)} {xs : List (Int × AV)} (h : kvs.map (·.1) = xs.map (·.1)) (k : Int) : kvs.any (fun p => decide (p.1 = k)) = xs.any (fun p => decide (p.1 = k)) := by
 have a : kvs.any (fun p => decide (p.1 = k)) = (kvs.map (·.1)).any fun q => decide (q = k) := by rw [List.any_map]; rfl
 have b : xs.any (fun p => decide (p.1 = k)) = (xs.map (·.1)).any fun q => decide (q = k) := by rw [List.any_map]; rfl
 rw [a,b,h]
theorem stored_ok {K : Kno} {γ : List Addr} {kvs : List (Int × Value)} {xs : List (Int × AV)} (h1 : kvs.map (·.1) = xs.map (·.1)) (h2 : RVs K γ (kvs.map (·.2)) (xs.map (·.2))) {k : Int} {v : Value} {x : AV} (hv : RV K γ v x) :
  (stored kvs k v).map (·.1) = (putA xs k x).map (·.1) ∧ RVs K γ ((stored kvs k v).map (·.2)) ((putA xs k x).map (·.2)) := by
 unfold stored putA
 rw [any_keys h1 k]
 split
 ·refine ⟨?_,?_⟩
  ·rw [List.map_map,List.map_map]
   have a : (kvs.map ((·.1) ∘ fun kv => if kv.1 = k then (kv.1,v) else kv)) = kvs.map (·.1) := List.map_congr_left fun p _ => by
    show (if p.1 = k then (p.1,v) else p).1 = p.1; split <;> rfl
   have b : (xs.map ((·.1) ∘ fun p => if p.1 = k then (p.1,x) else p)) = xs.map (·.1) := List.map_congr_left fun p _ => by
    show (if p.1 = k then (p.1,x) else p).1 = p.1; split <;> rfl
   rw [a,b,h1]
  ·refine ⟨by have := h2.1; simpa using this,fun i a b e f => ?_⟩
   rw [List.map_map,List.getElem?_map] at e f
   have e1 : (kvs.map (·.1))[i]? = (xs.map (·.1))[i]? := by rw [h1]
   rw [List.getElem?_map,List.getElem?_map] at e1
   cases p : kvs[i]? with
   | none => rw [p] at e; cases e
   | some pa =>
    cases q : xs[i]? with
    | none => rw [q] at f; cases f
    | some qa =>
     rw [p,q] at e1
     have e2 : pa.1 = qa.1 := Option.some.inj e1
     rw [p] at e; rw [q] at f
     have e3 := Option.some.inj e
     have e4 := Option.some.inj f
     subst e3 e4
     show RV K γ (if pa.1 = k then (pa.1,v) else pa).2 (if qa.1 = k then (qa.1,x) else qa).2
     rw [e2]
     split
     ·exact hv
     ·exact h2.2 i _ _ (by rw [List.getElem?_map,p]; rfl) (by rw [List.getElem?_map,q]; rfl)
 ·refine ⟨by rw [List.map_append,List.map_append,h1]; rfl,?_⟩
  rw [List.map_append,List.map_append]
  exact h2.snoc hv
theorem setI_ok (tm : cx.tm = true) {o i x : AV} {σ' : St} (h : setI o i x σ = some σ') (R : Rel cx r σ s) {co ci cv : Value} (ro : RV r.K r.γ co o) (ri : RV r.K r.γ ci i) (rx : RV r.K r.γ cv x) {Q : Unit → Shared → Prop} {E : Value → Shared → Prop}
  (hq : ∀ r' s',Go cx r σ s r' σ' s' → Rel cx r' σ' s' → r'.K = r.K → r'.γ = r.γ → Q () s') : wpAny (model prg cx.w) cx.A (setItem co ci cv) Q E s := by
 refine refIntM h fun n k eM eM2 h => ?_
 subst eM
 subst eM2
 refine dictM h fun kvs j hh h => ?_
 refine ifM h fun _ h => ?_
 cases h
 obtain ⟨a,rfl,hγ⟩ := ro.ref_inv
 obtain ⟨t,rfl⟩ := ri.int_inv
 obtain ⟨es,h5,h6⟩ := R.idx hγ hh
 obtain ⟨od,kv,rfl,h7,h8,h9,h10⟩ := h6.dict_inv
 have hlen : kv.length = kvs.length := by have := congrArg List.length h9; simpa using this
 refine kda_set (knd := PySem.intKind prg cx.w) R.F R.N (R.updF tm h5 (.head _)) h7 (intKind_is _ _ _ _) (by rw [hlen,sizeLine_eq]; lia) fun h' o' F' N' hs => ?_
 obtain ⟨e1,e2⟩ := stored_ok h9 h10 (k := k) rx
 obtain ⟨R',g'⟩ := R.upd tm h5 (.head _) F' N' hh (ao := .dict (putA kvs k x)) (by rw [rep_one]; exact .dict _ _ _ _ hs h8 e1 e2) (tk := s.toks + 1)
 exact hq _ _ g' R' rfl repOs_γ
set_option tactic.hygienic true in
theorem pairs_flat {K : Kno} {γ : List Addr} : ∀ {kvs : List (Int × Value)} {xs : List (Int × AV)} {c : List (Int × Int)},kvs.map (·.1) = xs.map (·.1) → RVs K γ (kvs.map (·.2)) (xs.map (·.2)) → toPairs xs = some c → PyProof.V.FlatPairs PyData.int kvs (kdfD c)
 | [],[],c,_,_,h => by cases h; exact .nil
 | (k,v) :: kvs,(k',x) :: xs,c,h1,h2,h => by
  have e1 : k = k' := (List.cons.inj h1).1
  have h2' : RVs K γ (kvs.map (·.2)) (xs.map (·.2)) := ⟨by have := h2.1; simpa using this,fun i v x hv hx => h2.2 (i + 1) v x (by simpa using hv) (by simpa using hx)⟩
  have h0 := h2.2 0 v x rfl rfl
  cases x <;> try (cases h; done)
  rename_i i
  unfold toPairs at h
  cases e : toPairs xs with
  | none => rw [e] at h; cases h
  | some c' =>
   rw [e] at h; cases h
   obtain ⟨t,rfl⟩ := h0.int_inv
   subst e1
   exact .cons (PyProof.V.Flat.int i t) (pairs_flat (List.cons.inj h1).2 h2' e)
 | [],_ :: _,_,h,_,_ => by cases h
 | _ :: _,[],_,h,_,_ => by cases h
theorem flat_pairs {K : Kno} {γ : List Addr} : ∀ {kvs : List (Int × Value)} {c : List (Int × Int)},PyProof.V.FlatPairs PyData.int kvs (kdfD c) → kvs.map (·.1) = (ofPairs c).map (·.1) ∧ RVs K γ (kvs.map (·.2)) ((ofPairs c).map (·.2))
 | [],[],_ => ⟨rfl,rfl,fun i a b e => by simp at e⟩
 | (k,v) :: kvs,(k',i) :: c,h => by
  obtain ⟨e1,e2,e3⟩ : PyData.int k = PyData.int k' ∧ PyProof.V.Flat v (PyData.int i) ∧ PyProof.V.FlatPairs PyData.int kvs (kdfD c) := by
   generalize hD : kdfD ((k',i) :: c) = D at h
   cases h with
   | cons f r =>
    have hD' : (PyData.int k',PyData.int i) :: kdfD c = _ := hD
    obtain ⟨q1,q2⟩ := List.cons.inj hD'
    obtain ⟨q3,q4⟩ := Prod.mk.inj q1
    subst q4 q2
    exact ⟨q3.symm,f,r⟩
  obtain ⟨t,rfl⟩ := e2.int_inv
  obtain ⟨i1,i2⟩ := flat_pairs (K := K) (γ := γ) e3
  have : k = k' := by injection e1
  subst this
  exact ⟨by show k :: _ = k :: _; rw [i1]; rfl,RVs.cons (.int i t) i2⟩
 | [],_ :: _,h => by cases h
 | _ :: _,[],h => by cases h
theorem delI_ok (tm : cx.tm = true) {o i : AV} {σ' : St} (h : delI o i σ = some σ') (R : Rel cx r σ s) {co ci : Value} (ro : RV r.K r.γ co o) (ri : RV r.K r.γ ci i) {Q : Unit → Shared → Prop} {E : Value → Shared → Prop}
  (hq : PU cx r σ s σ' Q) : wpAny (model prg cx.w) cx.A (delItem co ci) Q E s := by
 refine refIntM h fun n k eM eM2 h => ?_
 subst eM
 subst eM2
 refine dictM h fun kvs j hh h => ?_
 split at h
 ·rename_i c hc
  refine ifM h fun hb h => ?_
  replace hq := hq.eq h
  obtain ⟨a,rfl,hγ⟩ := ro.ref_inv
  obtain ⟨t,rfl⟩ := ri.int_inv
  obtain ⟨es,h5,h6⟩ := R.idx hγ hh
  obtain ⟨od,kv,rfl,h7,h8,h9,h10⟩ := h6.dict_inv
  refine kdy_del R.F R.N (R.updF tm h5 (.head _)) h7 (pairs_flat h9 h10 hc) hb.2 (by lia) fun h' o' kvs' F' N' hs hfl => ?_
  obtain ⟨e1,e2⟩ := flat_pairs (K := r.K) (γ := r.γ) hfl
  obtain ⟨R',g'⟩ := R.upd tm h5 (.head _) F' N' hh (ao := .dict (ofPairs (kdyDel c k))) (by rw [rep_one]; exact .dict _ _ _ _ hs h8 e1 e2) (tk := s.toks + 1)
  exact hq _ _ g' R'
 ·cases h
theorem ss_set_item {o i e : PySem.Expr} {pos' pos : Pos} {f fo fi : St → Option (AV × St)} (he : SE ns e f) (ho : SE ns o fo) (hi : SE ns i fi) (tm : Tm ns) (hs : ∀ env,swapsWith e (some (.Subscript o i pos')) pos.line env = pure false) :
  SS ns (.Assign [.Subscript o i pos'] e pos) (fun σ => f σ >>= fun p => fo p.2 >>= fun q => fi q.2 >>= fun t => (setI q.1 t.1 p.1 t.2).map fun σ' => (.next,σ')) := by
 refine ⟨?_⟩
 intro cx hn σ v σ' hf r s R Q E hq
 obtain ⟨⟨a,σ1⟩,e1,e2⟩ := bS hf
 obtain ⟨⟨b,σ2⟩,e3,e4⟩ := bS e2
 obtain ⟨⟨c,σ3⟩,e5,e6⟩ := bS e4
 refine wpAny_Assign_Subscript (he.run cx hn _ _ _ e1 r s R _ _ fun r1 s1 ca g1 R1 ra => ho.run cx hn _ _ _ e3 r1 s1 R1 _ _ fun r2 s2 cb g2 R2 rb => hi.run cx hn _ _ _ e5 r2 s2 R2 _ _ fun r3 s3 cc g3 R3 rc => ?_) (hs _)
 cases e : setI b c a σ3 with
 | none => dsimp only at e6; rw [e] at e6; cases e6
 | some σ4 =>
  dsimp only at e6; rw [e] at e6; replace hq := hq.eq e6
  exact setI_ok (tmOf hn tm) e R3 (rb.later g3.toLater) rc ((ra.later g2.toLater).later g3.toLater) fun r4 s4 g4 R4 _ _ => hq r4 s4 _ (((g1.trans g2).trans g3).trans g4) R4 .next
theorem ss_set_two {o i e : PySem.Expr} {x : Str} {k : Nat} {pos' px pos : Pos} {f fo fi : St → Option (AV × St)} (he : SE ns e f) (ho : SE ns o fo) (hi : SE ns i fi) (tm : Tm ns) (hk : ns.names[k]? = some (x,.local)) (hx : ns.names.lookup x = some .local)
  (h1 : ∀ env,List.map (fun x => Prod.snd x) (assignEach [.Subscript o i pos',.Name x px] env) = [assign (.Subscript o i pos') env,assign (.Name x px) env]) (h2 : ∀ env,swappedStores [.Subscript o i pos',.Name x px] e env = pure none) :
  SS ns (.Assign [.Subscript o i pos',.Name x px] e pos) (fun σ => f σ >>= fun p => fo p.2 >>= fun q => fi q.2 >>= fun t => (setI q.1 t.1 p.1 t.2).map fun σ' => (.next,setE k p.1 σ')) := by
 refine ⟨?_⟩
 intro cx hn σ v σ' hf r s R Q E hq
 obtain ⟨⟨a,σ1⟩,e1,e2⟩ := bS hf
 obtain ⟨⟨b,σ2⟩,e3,e4⟩ := bS e2
 obtain ⟨⟨c,σ3⟩,e5,e6⟩ := bS e4
 refine wpAny_Assign_two (he.run cx hn _ _ _ e1 r s R _ _ fun r1 s1 ca g1 R1 ra => kas_sub (ho.run cx hn _ _ _ e3 r1 s1 R1 _ _ fun r2 s2 cb g2 R2 rb => hi.run cx hn _ _ _ e5 r2 s2 R2 _ _ fun r3 s3 cc g3 R3 rc => ?_)) (h1 _) (h2 _)
 cases e : setI b c a σ3 with
 | none => dsimp only at e6; rw [e] at e6; cases e6
 | some σ4 =>
  dsimp only at e6; rw [e] at e6; replace hq := hq.eq e6
  have ra3 := (ra.later g2.toLater).later g3.toLater
  refine setI_ok (tmOf hn tm) e R3 (rb.later g3.toLater) rc ra3 fun r4 s4 g4 R4 eK eγ => wpAny_assign_Name ?_
  exact store_ok R4 (by rw [nO hn]; exact hk) (by rw [nO hn]; exact hx) (by rw [eK,eγ]; exact ra3) fun r5 s5 g5 R5 _ _ => hq r5 s5 _ ((((g1.trans g2).trans g3).trans g4).trans g5) R5 .next
theorem ss_del {o i : PySem.Expr} {pos' pos : Pos} {fo fi : St → Option (AV × St)} (ho : SE ns o fo) (hi : SE ns i fi) (tm : Tm ns) :
  SS ns (.Delete [.Subscript o i pos'] pos) (fun σ => fo σ >>= fun q => fi q.2 >>= fun t => (delI q.1 t.1 t.2).map fun σ' => (.next,σ')) := by
 refine ⟨?_⟩
 intro cx hn σ v σ' hf r s R Q E hq
 obtain ⟨⟨b,σ2⟩,e3,e4⟩ := bS hf
 obtain ⟨⟨c,σ3⟩,e5,e6⟩ := bS e4
 refine wpAny_Delete (wpAny_deleteEach_cons (delete_Subscript (ho.run cx hn _ _ _ e3 r s R _ _ fun r2 s2 cb g2 R2 rb => hi.run cx hn _ _ _ e5 r2 s2 R2 _ _ fun r3 s3 cc g3 R3 rc => ?_)))
 cases e : delI b c σ3 with
 | none => dsimp only at e6; rw [e] at e6; cases e6
 | some σ4 =>
  dsimp only at e6; rw [e] at e6; replace hq := hq.eq e6
  exact delI_ok (tmOf hn tm) e R3 (rb.later g3.toLater) rc fun r4 s4 g4 R4 => wpAny_deleteEach_nil (hq r4 s4 _ ((g2.trans g3).trans g4) R4 .next)
end
noncomputable def calleeK (r : Rt) (g : Heap) (fz0 : Led) : Kno := ⟨fun a => r.K.kn a ∨ ∃ o,(a,o) ∈ r.K.fz,g,fz0⟩
noncomputable def cCx (cx : Cx) (qual : Str) (scope : Scope) (L' f : Addr) (cd : Value) (g : Heap) (hk : scope.kind = .function) (hnd : (scope.names.map (·.1)).Nodup) {n : Nat} (hl : cx.lim = n + 1) : Cx where
 w := cx.w
 A := cx.A.deeper (envOfC qual scope L' f cd)
 env := envOfC qual scope L' f cd
 L := L'
 base := cx.base
 stk := envOfC qual scope L' f cd :: cx.stk
 k := cx.k + 3
 lim := n
 tm := true
 hand := cx.hand
 fn := true
 G := fun h => KtsTurn (frs cx.stk) g h ∧ Below cx.A cx.base cx.stk h
 Tn := KtsTurn (frs cx.stk)
 S := fun a b => (cx.tm = true ∧ cx.fn = true) → cx.S a b
 p := cx.p
 loose := cx.loose
 mg := cx.mg
 mb := cx.mb
 own := ownOf (L' + 1) scope.names
 ndn := hnd
 hh := fun q => cx.hh q
 hk := ⟨Nat.le_trans (Nat.succ_le_succ cx.hk.1) (by simp),Nat.add_le_add_right cx.hk.2 3⟩
 hlim := by have := cx.hlim; rw [hl] at this; lia
 hL := rfl
 hf := hk
 hg := rfl
 hb := rfl
 XB := cx.XB
 TB := cx.TB
 bm := cx.bm
 gS := fun h q => q.2.stays
 gB := fun h0 h m q F => pushX q.2 F rfl hk
 hfn := fun _ => ⟨cx.A,cx.stk,qual,scope,f,cd,⟨rfl,rfl⟩,rfl,fun h q => q.2,fun h h' q T B => ⟨⟨q.1.trans T,B⟩,T⟩,rfl⟩
 sS := fun s h tk _ => cx.sS s h tk
 sG := fun _ _ s h tk gs g q => cx.sG q.1 q.2 s h tk gs g
 sT := fun a b c x y q => cx.sT a b c (x q) (y q)
 tr := fun _ => .refl
 tt := fun _ _ _ a b => a.trans b
 tl := fun _ _ T _ _ e => T.up e
 oc := fun q h => ownOf_cells hnd h
 oi := fun x y c _ h hm => ownOf_inj h hm fun d hd => (nomatch hd)
section
variable {cx : Cx} {r : Rt} {σ : St} {s : Shared}
theorem Rel.notfl (R : Rel cx r σ s) (tm : cx.tm = true) : (∀ p ∈ r.cs ++ (r.K.fz ++ r.it),p.1 ∉ r.fl.map (·.1)) ∧ cx.L ∉ r.fl.map (·.1) ∧ ∀ b o,r.K.h0.get? b = some o → b ∉ r.fl.map (·.1) := by
 have nd := R.nd
 rw [mu_mut tm,List.map_append,List.nodup_append] at nd
 have mf : ∀ q ∈ r.fl,q ∈ r.mu cx := fun q h => by rw [mu_mut tm]; exact mR _ h
 refine ⟨fun p hp hm => ?_,fun hm => ?_,fun b o e hm => ?_⟩
 ·obtain ⟨q,hq,e⟩ := List.mem_map.mp hm
  rcases mA hp with h | h
  ·exact nd.2.2 _ (List.mem_map_of_mem h) _ (List.mem_map_of_mem hq) e.symm
  ·exact R.dj q (mf q hq) p h e
 ·obtain ⟨q,hq,e⟩ := List.mem_map.mp hm
  exact (R.N q (mL _ (mf q hq))).2.1 e
 ·obtain ⟨q,hq,e'⟩ := List.mem_map.mp hm
  rw [← e',(R.N q (mL _ (mf q hq))).2.2] at e
  cases e
theorem Rel.off (R : Rel cx r σ s) (tm : cx.tm = true) : Fr r.K.h0 cx.L (off s.heap r.fl) r.m ∧ ∀ p ∈ r.cs ++ (r.K.fz ++ r.it),(off s.heap r.fl).get? p.1 = some p.2 := by
 obtain ⟨h1,h2,h3⟩ := R.notfl tm
 obtain ⟨oL,es,ep,hL,hd⟩ := R.F.ns
 refine ⟨⟨⟨oL,es,ep,hideAll_get _ hL h2,hd⟩,fun b o e => hideAll_get _ (R.F.keep b o e) (h3 b o e),R.F.above⟩,fun p hp => hideAll_get _ (R.N p ?_).1 (h1 p hp)⟩
 rcases mA hp with h | h
 ·exact mL _ (cs_mu h)
 ·exact mR _ h
theorem RV.enter (R : Rel cx r σ s) (tm : cx.tm = true) {fz0 : Led} {v : Value} {x : AV} (h : RV r.K r.γ v x) : RV (calleeK r (off s.heap r.fl) fz0) r.γ v x := by
 obtain ⟨F,N⟩ := R.off tm
 have fzAt : ∀ p ∈ r.K.fz,(Mine.off s.heap r.fl).get? p.1 = some p.2 := fun p hp => N p (mR _ (mL _ hp))
 refine h.mono (fun a vs q => ?_) (fun a vs q => ?_) (fun a b q => ?_) fun _ _ e => e
 ·rcases q with ⟨h1,h2⟩ | ⟨n,h1⟩
  ·exact .inl ⟨.inl h1,h2.at fun o e => F.keep _ _ e⟩
  ·exact .inl ⟨.inr ⟨_,h1⟩,_,fzAt _ h1,rfl,⟨n,rfl⟩,rfl⟩
 ·rcases q with ⟨h1,o,h2,h3⟩ | ⟨n,h1⟩
  ·exact .inl ⟨.inl h1,o,F.keep _ _ h2,h3⟩
  ·exact .inl ⟨.inr ⟨_,h1⟩,_,fzAt _ h1,rfl,n,rfl⟩
 ·rcases q with ⟨h1,o,h2,h3⟩ | h1
  ·exact .inl ⟨.inl h1,o,F.keep _ _ h2,h3⟩
  ·exact .inl ⟨.inr ⟨_,h1⟩,_,fzAt _ h1,rfl,rfl⟩
theorem plainObj {o : Obj} {c : Value} {d : Data} (h : o.dict = none ∧ o.slots = #[]) (hc : o.cls = c) (hd : o.data = d) : o = { cls := c,data := d } := by
 obtain ⟨a,b,e,g⟩ := o
 obtain ⟨h1,h2⟩ := h
 dsimp only at h1 h2 hc hd
 rw [h1,h2,hc,hd]
theorem RV.leave {K1 K2 : Kno} {g : Heap} {fs : List Addr} {γ : List Addr} (hkn : ∀ a,K1.kn a → r.K.kn a ∨ ∃ o,(a,o) ∈ r.K.fz) (T : KtsTurn fs g K1.h0) (hg : ∀ p ∈ r.K.fz,g.get? p.1 = some p.2) (hpl : ∀ p ∈ r.K.fz,p.2.dict = Option.none ∧ p.2.slots = #[])
  (hk : ∀ a,r.K.kn a → ∃ o,g.get? a = some o ∧ ∃ sl,K2.h0.get? a = some { o with slots := sl }) (k2 : K2.kn = r.K.kn) (hfz : ∀ p ∈ r.K.fz,p ∈ K2.fz) (hfz1 : ∀ p ∈ K1.fz,p ∈ K2.fz) {v : Value} {x : AV} (h : RV K1 γ v x) : RV K2 γ v x := by
 have up : ∀ a c d dd,K1.kn a → (∃ o,K1.h0.get? a = some o ∧ o.cls = c ∧ o.data = d ∧ o.dict = dd) → (K2.kn a ∧ ∃ o,K2.h0.get? a = some o ∧ o.cls = c ∧ o.data = d ∧ o.dict = dd) ∨ (a,({ cls := c,data := d } : Obj)) ∈ K2.fz := by
  intro a c d dd ha ⟨o,ho,hc,hd,he⟩
  rcases hkn a ha with h1 | ⟨o1,h1⟩
  ·obtain ⟨o2,h2,sl,h3⟩ := hk a h1
   obtain ⟨sl2,h4⟩ := T.up h2
   rw [ho] at h4
   cases h4
   exact .inl ⟨by rw [k2]; exact h1,_,h3,hc,hd,he⟩
  ·obtain ⟨sl2,h4⟩ := T.up (hg _ h1)
   rw [ho] at h4
   cases h4
   have := plainObj (o := o1) (hpl _ h1) (show o1.cls = c from hc) (show o1.data = d from hd)
   rw [this] at h1
   exact .inr (hfz _ h1)
 refine h.mono (fun a vs q => ?_) (fun a vs q => ?_) (fun a b q => ?_) fun _ _ e => e
 ·rcases q with ⟨h1,o,h2,h3,⟨n,h4⟩,h5⟩ | ⟨n,h1⟩
  ·rcases up a _ _ _ h1 ⟨o,h2,h3,h4,h5⟩ with ⟨q1,o',q2,q3,q4,q5⟩ | q
   ·exact .inl ⟨q1,o',q2,q3,⟨n,q4⟩,q5⟩
   ·exact .inr ⟨n,q⟩
  ·exact .inr ⟨n,hfz1 _ h1⟩
 ·rcases q with ⟨h1,o,h2,h3,n,h4⟩ | ⟨n,h1⟩
  ·rcases up a _ _ _ h1 ⟨o,h2,h3,h4,rfl⟩ with ⟨q1,o',q2,q3,q4,_⟩ | q
   ·exact .inl ⟨q1,o',q2,q3,n,q4⟩
   ·exact .inr ⟨n,q⟩
  ·exact .inr ⟨n,hfz1 _ h1⟩
 ·rcases q with ⟨h1,o,h2,h3,h4⟩ | h1
  ·rcases up a _ _ _ h1 ⟨o,h2,h3,h4,rfl⟩ with ⟨q1,o',q2,q3,q4,_⟩ | q
   ·exact .inl ⟨q1,o',q2,q3,q4⟩
   ·exact .inr q
  ·exact .inr (hfz1 _ h1)
end
theorem RO.mono {prog : Program} {w : World} {K K' : Kno} {γ γ' : List Addr} {a : Addr} {x : AO} {es : Led} (R : RO prog w K γ a x es) (hv : ∀ v x,RV K γ v x → RV K' γ' v x) (hg : ∀ (n : Nat) (a : Addr),γ[n]? = some a → γ'[n]? = some a) : RO prog w K' γ' a x es := by
 have hvs : ∀ vs xs,RVs K γ vs xs → RVs K' γ' vs xs := fun vs xs h => ⟨h.1,fun i a b e f => hv _ _ (h.2 i a b e f)⟩
 cases R with
 | list vs xs n h1 => exact .list _ vs xs n (hvs _ _ h1)
 | dict o kvs xs h1 h2 h3 h4 => exact .dict _ o kvs xs h1 h2 h3 (hvs _ _ h4)
 | set o S n ks h1 h2 h3 => exact .set _ o S n ks h1 h2 h3
 | inst dx ta tb tc td va vb vc vd xa xb xc xd h1 h2 h3 h4 => exact .inst _ dx ta tb tc td va vb vc vd xa xb xc xd (hv _ _ h1) (hv _ _ h2) (hv _ _ h3) (hv _ _ h4)
 | info dx sx np t k u n h1 => exact .info _ dx sx np t k u n (hg _ _ h1)
 | iter la l pos h1 => exact .iter _ la l pos (hg _ _ h1)
 | dead o => exact .dead _ o
 | tbl ps h0 h => exact .tbl _ ps h0 h
noncomputable def retA : AF → AV | .ret v => v | _ => .none
noncomputable def retC : Flow → Value | .ret v => v | _ => .none
theorem RF.ret' {K : Kno} {γ : List Addr} {cf : Flow} {v : AF} (h : RF K γ cf v) : RV K γ (retC cf) (retA v) := by
 cases h with
 | next => exact .none
 | brk => exact .none
 | cont => exact .none
 | ret v x h => exact h
section
variable {cx : Cx} {r : Rt} {σ : St} {s : Shared}
theorem Rel.below (R : Rel cx r σ s) (tm : cx.tm = true) : Below cx.A cx.base cx.stk (Mine.off s.heap r.fl) := cx.gB _ _ _ R.G (R.off tm).1
structure Ent (cx : Cx) (r : Rt) (s : Shared) (names : List (Str × NameKind)) (g : Heap) (L' : Addr) (h₁ : Heap) (m' : Str → Option Value) (fz0 cells : Led) (e0 : List (Option AV)) : Prop where
 eg : g = Mine.off s.heap r.fl
 F : Fr g L' h₁ m'
 N : News g L' h₁ (cells ++ (fz0 ++ r.fl))
 dj : ∀ p ∈ r.fl,∀ q ∈ fz0,p.1 ≠ q.1
 pl : ∀ p ∈ fz0,p.2.dict = none ∧ p.2.slots = #[]
 E : ∀ (k : Nat) (av : AV),e0[k]? = some (some av) → ∃ x v,names[k]? = some (x,.local) ∧ names.lookup x = some .local ∧ m' x = some v ∧ RV (calleeK r g fz0) r.γ v av
 cnd : (cells.map (·.1)).Nodup
 cdj : ∀ p ∈ cells,∀ q ∈ fz0 ++ r.fl,p.1 ≠ q.1
 cc : ∀ q ∈ ownOf (L' + 1) names,∃ o v,(q.2,o) ∈ cells ∧ o.data = .cell v
theorem own_enter {qual : Str} {scope : Scope} {f : Addr} {cd : Value} {n : Nat} {g h₁ : Heap} {L' : Addr} {m' : Str → Option Value} {fz0 cells : Led} {e0 : List (Option AV)} {tk : Nat} (R : Rel cx r σ s) (tm : cx.tm = true) (hl : cx.lim = n + 1) (hk : scope.kind = .function) (hnd : (scope.names.map (·.1)).Nodup)
  (X : Ent cx r s scope.names g L' h₁ m' fz0 cells e0) : Rel (cCx cx qual scope L' f cd g hk hnd hl) ⟨calleeK r g fz0,m',cells,r.os,[]⟩ ⟨e0,σ.heap⟩ { s with heap := h₁,toks := tk } := by
 obtain ⟨rfl,F,N,dj,pl,hE,cnd,cdj,cc⟩ := X
 have nd := R.nd
 rw [mu_mut tm,List.map_append,List.nodup_append] at nd
 have mu : Rt.mu ⟨calleeK r (off s.heap r.fl) fz0,m',cells,r.os,[]⟩ (cCx cx qual scope L' f cd (off s.heap r.fl) hk hnd hl) = cells ++ r.fl := by rw [mu_mut rfl]; rfl
 refine ⟨⟨?_,fun p hp q hq => ?_,fun p hp q hq => (nomatch hq),pl,fun q => (nomatch (show true = false from q)),⟨.refl,R.below tm⟩,fun a ha => ?_,fun k av e => ?_,R.len,fun i ao m e => ?_,cc⟩,F,fun p hp => N p ?_⟩
 ·rw [mu,List.map_append,List.nodup_append]
  refine ⟨cnd,nd.2.1,fun x hx y hy e => ?_⟩
  obtain ⟨p,hp,rfl⟩ := List.mem_map.mp hx
  obtain ⟨q,hq,rfl⟩ := List.mem_map.mp hy
  exact cdj p hp q (mR _ hq) e
 ·rw [mu] at hp
  have hq : q ∈ fz0 := by simpa [calleeK] using hq
  rcases mA hp with hp | hp
  ·exact cdj p hp q (mL _ hq)
  ·exact dj p hp q hq
 ·obtain ⟨F0,N0⟩ := R.off tm
  rcases ha with ha | ⟨o,ha⟩
  ·obtain ⟨o,ho⟩ := R.kh a ha
   exact ⟨o,F0.keep _ _ ho⟩
  ·exact ⟨o,N0 _ (mR _ (mL _ ha))⟩
 ·obtain ⟨x,v,h1,h2,h3,h4⟩ := hE k av e
  exact ⟨x,.local,v,h1,h2,.inl ⟨rfl,h3⟩,h4⟩
 ·obtain ⟨a,es,h1,h2⟩ := R.H i ao m e
  exact ⟨a,es,h1,h2.mono (fun v x h => RV.enter R tm h) fun _ _ h => h⟩
 ·rw [mu] at hp
  rcases mA hp with h | h
  ·rcases mA h with h | h
   ·exact mL _ h
   ·exact mR _ (mR _ h)
  ·exact mR _ (mL _ (by simpa [calleeK] using h))
theorem own_leave {qual : Str} {scope : Scope} {f : Addr} {cd : Value} {n : Nat} {g : Heap} {L' : Addr} {m' : Str → Option Value} {fz0 cells : Led} {e0 : List (Option AV)} {r1 : Rt} {σ1 : St} {s0 s1 : Shared} (R : Rel cx r σ s) (tm : cx.tm = true) (hfn : cx.fn = true) (hl : cx.lim = n + 1) (hk : scope.kind = .function) (hnd : (scope.names.map (·.1)).Nodup)
  (hg : g = off s.heap r.fl) (hs : cx.S s s0) (go : Go (cCx cx qual scope L' f cd g hk hnd hl) ⟨calleeK r g fz0,m',cells,r.os,[]⟩ ⟨e0,σ.heap⟩ s0 r1 σ1 s1) (R1 : Rel (cCx cx qual scope L' f cd g hk hnd hl) r1 σ1 s1) :
  ∃ r2,Go cx r σ s r2 ⟨σ.env,σ1.heap⟩ s1 ∧ Rel cx r2 ⟨σ.env,σ1.heap⟩ s1 ∧ ∀ v x,RV r1.K r1.γ v x → RV r2.K r2.γ v x := by
 refine cx.hfnE hfn fun A₀ outer name sc a0 cd0 henv _ hA hB hT hst => ?_
 obtain ⟨F0,N0⟩ := R.off tm
 have T : KtsTurn (frs (cx.env :: outer)) g r1.K.h0 := by rw [← hst]; exact go.tn
 have hfr : cx.env.frame = some cx.L := by rw [henv]; rfl
 rw [← hg] at F0 N0
 obtain ⟨h0',TT,F',B',kk⟩ := reground (hB _ R.G) F0 hfr T R1.F.keep
 obtain ⟨G',Tn'⟩ := hT _ _ R.G TT B'
 have hit1 : r1.it = [] := go.it
 have hkn1 : r1.K.kn = (calleeK r g fz0).kn := go.K.kn
 have mu1 : r1.mu (cCx cx qual scope L' f cd g hk hnd hl) = r1.cs ++ r1.fl := mu_mut rfl
 have nd1 := R1.nd
 rw [mu1,List.map_append,List.nodup_append] at nd1
 have nd1 := nd1.2.1
 have nd := R.nd
 rw [mu_mut tm,List.map_append,List.nodup_append] at nd
 -- the caller's things stand in g,the callee's new ones do not
 have none1 : ∀ p ∈ r1.fl ++ r1.K.fz,r1.K.h0.get? p.1 = none ∧ s1.heap.get? p.1 = some p.2 := fun p hp => by
  have := R1.N p (by rw [mu1]; exact (mA hp).elim (fun h => mL _ (mR _ h)) fun h => mR _ (mL _ h))
  exact ⟨this.2.2,this.1⟩
 have apart : ∀ p ∈ r.cs ++ (r.K.fz ++ r.it),∀ q ∈ r1.fl ++ r1.K.fz,p.1 ≠ q.1 := fun p hp q hq e => by
  obtain ⟨sl,h2⟩ := T.up (N0 p hp)
  rw [e,(none1 q hq).1] at h2
  cases h2
 have oldN : ∀ p ∈ r.cs ++ (r.K.fz ++ r.it),p ∈ r.mu cx ++ (r.K.fz ++ r.it) := fun p hp => (mA hp).elim (fun h => mL _ (cs_mu h)) (mR _)
 have nf : ∀ q ∈ r.cs ++ (r.K.fz ++ r.it),q.1 ∉ frs (cx.env :: outer) := fun q hq hm => by
  obtain ⟨e',he',hfe⟩ := List.mem_filterMap.mp hm
  have z := R.N q (oldN q hq)
  rcases List.mem_cons.mp he' with rfl | he'
  ·rw [hfr] at hfe
   exact z.2.1 (Option.some.inj hfe).symm
  ·obtain ⟨_,o,ho,_⟩ := (hB _ R.G).frames.mem (List.mem_filterMap.mpr ⟨e',he',hfe⟩)
   rw [z.2.2] at ho
   cases ho
 have newN : ∀ q ∈ r1.fl ++ r1.K.fz,s1.heap.get? q.1 = some q.2 ∧ q.1 ≠ cx.L ∧ h0'.get? q.1 = none := fun q hq => by
  obtain ⟨b,a⟩ := none1 q hq
  refine ⟨a,fun e => ?_,?_⟩
  ·obtain ⟨o,_,_,ho,_⟩ := F0.ns
   obtain ⟨sl,h2⟩ := T.up ho
   rw [← e,b] at h2
   cases h2
  ·cases z : h0'.get? q.1 with
   | none => rfl
   | some o' =>
    cases y : r.K.h0.get? q.1 with
    | none => rw [TT.none_ _ y] at z; cases z
    | some o =>
     obtain ⟨sl,h2⟩ := T.up (F0.keep _ _ y)
     rw [b] at h2
     cases h2
 have mu2 : Rt.mu ⟨⟨r.K.kn,h0',r.K.fz ++ r1.K.fz⟩,r.m,r.cs,r1.os,r.it⟩ cx = r.cs ++ r1.fl := by rw [mu_mut tm]; rfl
 have hγ : ∃ t,Rt.γ ⟨⟨r.K.kn,h0',r.K.fz ++ r1.K.fz⟩,r.m,r.cs,r1.os,r.it⟩ = r.γ ++ t := go.γ
 have Lt : Later cx r ⟨⟨r.K.kn,h0',r.K.fz ++ r1.K.fz⟩,r.m,r.cs,r1.os,r.it⟩ := ⟨⟨fun p hp => mL _ hp,rfl,fun a o e => TT.up e⟩,hγ,Tn'⟩
 have back : ∀ v x,RV r1.K r1.γ v x → RV ⟨r.K.kn,h0',r.K.fz ++ r1.K.fz⟩ r1.γ v x := fun v x h => by
  refine RV.leave (r := r) (K1 := r1.K) (K2 := ⟨r.K.kn,h0',r.K.fz ++ r1.K.fz⟩) (fun a ha => ?_) T (fun p hp => N0 p (mR _ (mL _ hp))) R.pl (fun a ha => ?_) rfl (fun p hp => mL _ hp) (fun p hp => mR _ hp) h
  ·rw [hkn1] at ha; exact ha
  ·obtain ⟨o,ho⟩ := R.kh a ha
   exact ⟨o,F0.keep _ _ ho,TT.up ho⟩
 refine ⟨⟨⟨r.K.kn,h0',r.K.fz ++ r1.K.fz⟩,r.m,r.cs,r1.os,r.it⟩,⟨Lt,⟨go.ver,rfl,rfl⟩,cx.sT _ _ _ hs (go.S ⟨tm,hfn⟩),fun q => Bool.noConfusion (tm.symm.trans q)⟩,⟨⟨?_,?_,?_,?_,fun q => absurd (tm.symm.trans q) (by decide),G',?_,?_,R1.len,?_,R.cc⟩,F',?_⟩,back⟩
 ·rw [mu2,List.map_append,List.nodup_append]
  refine ⟨nd.1,nd1,fun x hx y hy e => ?_⟩
  obtain ⟨p,hp,rfl⟩ := List.mem_map.mp hx
  obtain ⟨q,hq,rfl⟩ := List.mem_map.mp hy
  exact apart p (mL _ hp) q (mL _ hq) e
 ·intro p hp q hq
  rw [mu2] at hp
  have hq' : q ∈ (r.K.fz ++ r1.K.fz) ++ r.it := hq
  rcases mA hp with hp | hp
  ·rcases mA hq' with hq | hq
   ·rcases mA hq with hq | hq
    ·exact R.dj p (cs_mu hp) q (mL _ hq)
    ·exact apart p (mL _ hp) q (mR _ hq)
   ·exact R.dj p (cs_mu hp) q (mR _ hq)
  ·rcases mA hq' with hq | hq
   ·rcases mA hq with hq | hq
    ·exact (apart q (mR _ (mL _ hq)) p (mL _ hp)).symm
    ·exact R1.dj p (by rw [mu1]; exact mR _ hp) q (mL _ hq)
   ·exact (apart q (mR _ (mR _ hq)) p (mL _ hp)).symm
 ·intro p hp q hq
  rcases mA hp with hp | hp
  ·exact R.di p hp q hq
  ·exact (apart q (mR _ (mR _ hq)) p (mR _ hp)).symm
 ·intro p hp
  rcases mA hp with hp | hp
  ·exact R.pl p hp
  ·exact R1.pl p hp
 ·intro a ha
  obtain ⟨o,ho⟩ := R.kh a ha
  obtain ⟨sl,h2⟩ := TT.up ho
  exact ⟨_,h2⟩
 ·intro k av e
  obtain ⟨x,kd,v,h1,h2,h3,h4⟩ := R.E k av e
  refine ⟨x,kd,v,h1,h2,?_,h4.later Lt⟩
  rcases h3 with h3 | ⟨rfl,c,o,hc,hco,ho⟩
  ·exact .inl h3
  ·rcases hco with hco | hco
   ·exact .inr ⟨rfl,c,o,hc,.inl hco,ho⟩
   ·obtain ⟨sl,h5⟩ := TT.up hco
    exact .inr ⟨rfl,c,_,hc,.inr h5,ho⟩
 ·intro i ao m e
  obtain ⟨b,es,h1,h2⟩ := R1.H i ao m e
  exact ⟨b,es,h1,h2.mono back fun _ _ h => h⟩
 ·intro p hp
  rw [mu2] at hp
  have old : ∀ q ∈ r.cs ++ (r.K.fz ++ r.it),s1.heap.get? q.1 = some q.2 ∧ q.1 ≠ cx.L ∧ h0'.get? q.1 = none := fun q hq =>
   ⟨kk _ _ (N0 q hq) (nf q hq),(R.N q (oldN q hq)).2.1,TT.none_ _ (R.N q (oldN q hq)).2.2⟩
  rcases mA hp with hp | hp
  ·rcases mA hp with hp | hp
   ·exact old p (mL _ hp)
   ·exact newN p (mL _ hp)
  ·have hp' : p ∈ (r.K.fz ++ r1.K.fz) ++ r.it := hp
   rcases mA hp' with hp | hp
   ·rcases mA hp with hp | hp
    ·exact old p (mR _ (mL _ hp))
    ·exact newN p (mR _ hp)
   ·exact old p (mR _ (mR _ hp))
theorem own_bodyC {qual : Str} {scope : Scope} {f : Addr} {cd : Value} {n : Nat} {g h₁ : Heap} {L' : Addr} {m' : Str → Option Value} {fz0 cells : Led} {e0 : List (Option AV)} {tk : Nat} {body : List Stmt} {den : St → Option (AF × St)} {v : AF} {σ1 : St} {Q : Value → Shared → Prop} (R : Rel cx r σ s) (tm : cx.tm = true) (hfn : cx.fn = true) (hl : cx.lim = n + 1) (hk : scope.kind = .function) (hnd : (scope.names.map (·.1)).Nodup)
  (X : Ent cx r s scope.names g L' h₁ m' fz0 cells e0) (H : SB ⟨scope.names,true,cx.hand,true,n,ownN scope.names,cd⟩ body den) (hf : den ⟨e0,σ.heap⟩ = some (v,σ1))
  (hq : PV cx r σ s (retA v) ⟨σ.env,σ1.heap⟩ Q) :
  wpAny (model prg cx.w) (cx.A.deeper (envOfC qual scope L' f cd)) (execs body (envOfC qual scope L' f cd)) (fun fl s' => Q (match fl with | .ret v => v | _ => .none) s') (fun _ _ => False) { s with heap := h₁,toks := tk } := by
 refine H.run (cCx cx qual scope L' f cd g hk hnd hl) (by show Sig.mk _ _ _ _ _ ((ownOf (L' + 1) scope.names).map (·.1)) _ = _; rw [ownOf_fst]; rfl) _ _ _ hf _ _ (own_enter R tm hl hk hnd X) _ _ fun r1 s1 cf go R1 rf => ?_
 obtain ⟨r2,go2,R2,hb⟩ := own_leave R tm hfn hl hk hnd X.eg (cx.sS s h₁ tk) go R1
 have := hq r2 s1 (retC cf) go2 R2 (hb _ _ rf.ret')
 cases cf <;> exact this
theorem own_body {qual : Str} {scope : Scope} {f : Addr} {cd : Value} {n : Nat} {g h₁ : Heap} {L' : Addr} {m' : Str → Option Value} {fz0 : Led} {e0 : List (Option AV)} {tk : Nat} {body : List Stmt} {den : St → Option (AF × St)} {v : AF} {σ1 : St} {Q : Value → Shared → Prop} (R : Rel cx r σ s) (tm : cx.tm = true) (hfn : cx.fn = true) (hl : cx.lim = n + 1) (hk : scope.kind = .function) (hnd : (scope.names.map (·.1)).Nodup) (hnc : ∀ x ∈ scope.names,x.2 ≠ .cell)
  (eg : g = Mine.off s.heap r.fl) (F : Fr g L' h₁ m') (N : News g L' h₁ (fz0 ++ r.fl)) (dj : ∀ p ∈ r.fl,∀ q ∈ fz0,p.1 ≠ q.1) (pl : ∀ p ∈ fz0,p.2.dict = none ∧ p.2.slots = #[])
  (hE : ∀ (k : Nat) (av : AV),e0[k]? = some (some av) → ∃ x v,scope.names[k]? = some (x,.local) ∧ scope.names.lookup x = some .local ∧ m' x = some v ∧ RV (calleeK r g fz0) r.γ v av)
  (H : SB ⟨scope.names,true,cx.hand,true,n,[],cd⟩ body den) (hf : den ⟨e0,σ.heap⟩ = some (v,σ1))
  (hq : PV cx r σ s (retA v) ⟨σ.env,σ1.heap⟩ Q) :
  wpAny (model prg cx.w) (cx.A.deeper (envOf qual scope L' f cd)) (execs body (envOf qual scope L' f cd)) (fun fl s' => Q (match fl with | .ret v => v | _ => .none) s') (fun _ _ => False) { s with heap := h₁,toks := tk } := by
 rw [← envC_plain hnc]
 have e : ownN scope.names = [] := by rw [← ownOf_fst scope.names 0,own_plain hnc]; rfl
 exact own_bodyC (cells := []) R tm hfn hl hk hnd ⟨eg,F,N,dj,pl,hE,List.nodup_nil,fun p hp => (nomatch hp),fun q hq => by rw [own_plain hnc] at hq; cases hq⟩ (by rw [e]; exact H) hf hq
end
theorem lookup_mem {α : Type} {x : Str} {v : α} : ∀ {l : List (Str × α)},(l.map (·.1)).Nodup → (x,v) ∈ l → l.lookup x = some v
 | p :: r,nd,h => by
  rw [List.map_cons,List.nodup_cons] at nd
  rw [List.lookup_cons]
  rcases List.mem_cons.mp h with rfl | h
  ·simp
  ·have : (x == p.1) = false := by
    rw [beq_eq_false_iff_ne]
    intro e
    exact nd.1 (e ▸ List.mem_map_of_mem (f := (·.1)) h)
   rw [this]
   exact lookup_mem nd.2 h
theorem zip_lookup {ps : List Str} {vs : List Value} {k : Nat} {x : Str} {v : Value} (nd : ps.Nodup) (hl : vs.length = ps.length) (h1 : ps[k]? = some x) (h2 : vs[k]? = some v) : (ps.zip vs).reverse.lookup x = some v := by
 refine lookup_mem ?_ ?_
 ·rw [List.map_reverse,show (ps.zip vs).map (·.1) = ps from by rw [List.map_fst_zip (by simp_all)]]
  exact List.pairwise_reverse.mpr (nd.imp Ne.symm)
 ·rw [List.mem_reverse]
  refine List.mem_of_getElem? (i := k) ?_
  rw [List.getElem?_zip_eq_some]
  exact ⟨h1,h2⟩
noncomputable def env0 (xs : List AV) (k : Nat) : List (Option AV) := xs.map some ++ List.replicate k none
theorem env0_get {xs : List AV} {n k : Nat} {av : AV} (h : (env0 xs n)[k]? = some (some av)) : xs[k]? = some av := by
 unfold env0 at h
 by_cases hk : k < xs.length
 ·rw [List.getElem?_append_left (by simpa using hk),List.getElem?_map] at h
  cases e : xs[k]? with
  | none => rw [e] at h; cases h
  | some a => rw [e] at h; cases h; rfl
 ·rw [List.getElem?_append_right (by simpa using hk),List.getElem?_replicate] at h
  split at h <;> cases h
noncomputable def Fn (n : Nat) (f : Addr) (F : List AV → St → Option (AV × St)) : Prop :=
 ∀ cx : Cx,cx.tm = true → cx.fn = true → cx.hand = true → cx.lim = n → ∀ σ xs v σ',F xs σ = some (v,σ') → ∀ r s vs,Rel cx r σ s → RVs r.K r.γ vs xs → ∀ (RR : Result → Shared → Prop),
  (∀ r' s' cv,Go cx r σ s r' σ' s' → Rel cx r' σ' s' → RV r'.K r'.γ cv v → RR (.ok (.ret cv)) s') → codeAny (model prg cx.w) cx.A (.call (.ref f) ⟨vs,[]⟩) RR s
noncomputable def fOwn (np k : Nat) (den : St → Option (AF × St)) (xs : List AV) (σ : St) : Option (AV × St) := if xs.length = np then den ⟨env0 xs k,σ.heap⟩ >>= fun p => some (retA p.1,⟨σ.env,p.2.heap⟩) else none
theorem fn_own {f : Addr} {n k : Nat} {ps : List Str} {name qual : Str} {params : Arguments} {body : List Stmt} {scope : Scope} {dV kV doc pm cdv ct oc : Value} {an od : Option Addr} {osl : Array (Option Value)} {den : St → Option (AF × St)}
  (ho : ∀ P,(hd.heap_1 P).lookup f = some ⟨oc,od,.func (fnOf name qual params body scope dV kV doc pm an cdv ct),osl⟩) (hcd : ∀ P,codeIn (hd.heap_1 P) cdv qual = true)
  (hb : ∀ vs : List Value,vs.length = ps.length → bindArgs (fnOf name qual params body scope dV kV doc pm an cdv ct) ⟨vs,[]⟩ = pure (ps.zip vs))
  (hco : scope.isCoroutine = false) (hgen : scope.isGenerator = false) (hk : scope.kind = .function) (hnc : (scope.names.all fun x => x.2 != .cell) = true) (hnd : (scope.names.map (·.1)).Nodup) (hpn : ps.Nodup)
  (hps : scope.names.take ps.length = ps.map fun x => (x,NameKind.local)) (hlk : (ps.all fun x => scope.names.lookup x == some .local) = true)
  (H : SB ⟨scope.names,true,true,true,n,[],cdv⟩ body den) : Fn (n + 1) f (fOwn ps.length k den) := by
 intro cx tm hfn hh hl σ xs v σ' hf r s vs R hvs RR hq
 refine ifM hf fun hxl hf => ?_
 obtain ⟨⟨av,σ1⟩,e1,e2⟩ := bS hf
 cases e2
 have hvl : vs.length = ps.length := hvs.1.trans hxl
 have hlk' : ∀ x ∈ ps,scope.names.lookup x = some .local := fun x hx => by simpa using List.all_eq_true.mp hlk x hx
 refine (enterM (K := hd.heap_1 cx.w.params) (R.below tm) (R.X.keeps (R.off tm).1.keep) (R.T.keeps (R.off tm).1.keep) (fun q hq => (R.N q (mL _ (by rw [mu_mut tm]; exact mR _ hq))).1) (ho _) (hcd _) ?_
  (BindsTo.of_eq (hb vs hvl)) (fun y hy => hlk' _ (List.of_mem_zip (a := y.1) (b := y.2) hy).1) (fun g L' h₁ hg F' N' _ _ _ _ => ?_) hco hgen hk (fun x hx => by simpa using List.all_eq_true.mp hnc x hx))
 ·have := cx.hk.1
  have := cx.hlim
  unfold recursionLimit
  exact ar9 ‹_› ‹_›
 ·refine own_body (Q := fun v s => RR (.ok (.ret v)) s) (e0 := env0 xs k) (fz0 := []) R tm hfn hl hk hnd (fun x hx => by simpa using List.all_eq_true.mp hnc x hx) hg F' N' (fun p hp q hq => (nomatch hq)) (fun p hp => (nomatch hp)) (fun i a e => ?_) (by rw [hh]; exact H) e1 hq
  have e' := env0_get e
  have hi : i < ps.length := by rw [← hxl]; exact (List.getElem?_eq_some_iff.mp e').1
  have h1 : ps[i]? = some ps[i] := List.getElem?_eq_getElem hi
  have h2 : vs[i]? = some (vs[i]'(by rw [hvl]; exact hi)) := List.getElem?_eq_getElem _
  refine ⟨ps[i],_,?_,hlk' _ (List.getElem_mem hi),zip_lookup hpn hvl h1 h2,?_⟩
  ·have := congrArg (·[i]?) hps
   simp only [List.getElem?_take,hi,if_true,List.getElem?_map,h1] at this
   exact this
  ·subst hg; exact RV.enter R tm (hvs.2 i _ _ h2 e')
theorem take_drop_get {α : Type} {l : List α} {n i : Nat} {x : α} (h : (l.take n)[i]? = some x) : l[i]? = some x := by
 rw [List.getElem?_take] at h
 refine ifM h fun _ h => ?_
 exact h
noncomputable def fOwnR (np k : Nat) (den : St → Option (AF × St)) (xs : List AV) (σ : St) : Option (AV × St) := if np ≤ xs.length ∧ xs.length ≤ np + 6 then den ⟨env0 (xs.take np ++ [.tp (xs.drop np)]) k,σ.heap⟩ >>= fun p => some (retA p.1,⟨σ.env,p.2.heap⟩) else none
theorem fn_ownR {f : Addr} {n k np : Nat} {ps : List Str} {name qual : Str} {params : Arguments} {body : List Stmt} {scope : Scope} {dV kV doc pm cdv ct oc : Value} {an od : Option Addr} {osl : Array (Option Value)} {den : St → Option (AF × St)}
  (ho : ∀ P,(hd.heap_1 P).lookup f = some ⟨oc,od,.func (fnOf name qual params body scope dV kV doc pm an cdv ct),osl⟩) (hcd : ∀ P,codeIn (hd.heap_1 P) cdv qual = true) (hnp : ps.length = np + 1)
  (hb : ∀ (P : Params) (vs : List Value),np ≤ vs.length → vs.length ≤ np + 6 → peek1 (hd.heap_1 P) ⟨prg,P⟩ (bindArgs (fnOf name qual params body scope dV kV doc pm an cdv ct) ⟨vs,[]⟩) = some (tupO (vs.drop np),fun D => some (ps.zip (vs.take np ++ [.ref D]))))
  (hco : scope.isCoroutine = false) (hgen : scope.isGenerator = false) (hk : scope.kind = .function) (hnc : (scope.names.all fun x => x.2 != .cell) = true) (hnd : (scope.names.map (·.1)).Nodup) (hpn : ps.Nodup)
  (hps : scope.names.take ps.length = ps.map fun x => (x,NameKind.local)) (hlk : (ps.all fun x => scope.names.lookup x == some .local) = true)
  (H : SB ⟨scope.names,true,true,true,n,[],cdv⟩ body den) : Fn (n + 1) f (fOwnR np k den) := by
 intro cx tm hfn hh hl σ xs v σ' hf r s vs R hvs RR hq
 refine ifM hf fun hxl hf => ?_
 obtain ⟨⟨av,σ1⟩,e1,e2⟩ := bS hf
 cases e2
 have hvl : vs.length = xs.length := hvs.1
 have hlk' : ∀ x ∈ ps,scope.names.lookup x = some .local := fun x hx => by simpa using List.all_eq_true.mp hlk x hx
 refine (enterMR (vs := vs.drop np) (bindsD := fun D => ps.zip (vs.take np ++ [.ref D])) (K := hd.heap_1 cx.w.params) (R.below tm) (R.X.keeps (R.off tm).1.keep) (R.T.keeps (R.off tm).1.keep) (fun q hq => (R.N q (mL _ (by rw [mu_mut tm]; exact mR _ hq))).1) (ho _) (hcd _) ?_
  (hb _ vs (by simp_all) (by simp_all)) (fun D => rfl) (fun D y hy => hlk' _ (List.of_mem_zip (a := y.1) (b := y.2) hy).1) (fun D g L' h₁ hg hD _ F' N' _ _ _ => ?_) hco hgen hk (fun x hx => by simpa using List.all_eq_true.mp hnc x hx))
 ·have := cx.hk.1
  have := cx.hlim
  unfold recursionLimit
  exact ar9 ‹_› ‹_›
 ·have vl : (vs.take np ++ [Value.ref D]).length = ps.length := by rw [List.length_append,List.length_take,hnp]; simp; simp_all
  refine own_body (Q := fun v s => RR (.ok (.ret v)) s) (e0 := env0 (xs.take np ++ [.tp (xs.drop np)]) k) (fz0 := [(D,tupO (vs.drop np))]) R tm hfn hl hk hnd (fun x hx => by simpa using List.all_eq_true.mp hnc x hx) hg F' N' (fun p hp q hq => ?_) (fun p hp => ?_) (fun i a e => ?_) (by rw [hh]; exact H) e1 hq
  ·obtain rfl := List.mem_singleton.mp hq
   exact Nat.ne_of_lt (hD p hp)
  ·obtain rfl := List.mem_singleton.mp hp
   exact ⟨rfl,rfl⟩
  ·have e' := env0_get e
   have hv2 : RVs (calleeK r g [(D,tupO (vs.drop np))]) r.γ (vs.take np ++ [.ref D]) (xs.take np ++ [.tp (xs.drop np)]) := by
    subst hg
    refine RVs.snoc ⟨by rw [List.length_take,List.length_take,hvl],fun i v x h1 h2 => RV.enter R tm (hvs.2 i v x (take_drop_get h1) (take_drop_get h2))⟩ (.tp D _ _ (.inr ⟨0,.head _⟩) (by rw [List.length_drop,List.length_drop,hvl]) fun i v x h1 h2 => RV.enter R tm (hvs.2 (np + i) v x (by rw [← List.getElem?_drop]; exact h1) (by rw [← List.getElem?_drop]; exact h2)))
   have hi : i < (xs.take np ++ [AV.tp (xs.drop np)]).length := (List.getElem?_eq_some_iff.mp e').1
   have hi' : i < ps.length := by rw [← vl,hv2.1]; exact hi
   have h1 : ps[i]? = some ps[i] := List.getElem?_eq_getElem hi'
   have h2 : (vs.take np ++ [Value.ref D])[i]? = some ((vs.take np ++ [Value.ref D])[i]'(by rw [hv2.1]; exact hi)) := List.getElem?_eq_getElem _
   refine ⟨ps[i],_,?_,hlk' _ (List.getElem_mem hi'),zip_lookup hpn vl h1 h2,hv2.2 i _ _ h2 e'⟩
   have := congrArg (·[i]?) hps
   simp only [List.getElem?_take,hi',if_true,List.getElem?_map,h1] at this
   exact this
noncomputable def isI (v : AV) (σ : St) : Bool := match v with
 | .ref n => (match σ.heap[n]? with | some (.inst _ _ _ _,_) => true | _ => false)
 | _ => false
section
variable {ns : Sig} {cx : Cx} {r : Rt} {σ : St} {s : Shared}
theorem instB {o : Option (AO × Nat)} (h : (match o with | some (.inst _ _ _ _,_) => true | _ => false) = true) : ∃ a b c d k,o = some (.inst a b c d,k) := by
 cases o with
 | none => exact falseE h
 | some p =>
  obtain ⟨a,n⟩ := p
  cases a with
  | inst a b c d => exact ⟨a,b,c,d,n,rfl⟩
  | _ => exact falseE h
theorem isI_ok (R : Rel cx r σ s) {v : AV} {cv : Value} (hv : RV r.K r.γ cv v) (h : isI v σ = true) :
  ∃ a dx ta tb tc td va vb vc vd,cv = .ref a ∧ W.InstAt s.heap a (instObj 185 dx) 185 (some (dictOf (flds cx.w.params ta tb tc td va vb vc vd) 4)) := by
 refine refB h ?_
 clear h
 intro n eM h
 subst eM
 obtain ⟨xa,xb,xc,xd,k,hh⟩ := instB h
 obtain ⟨a,rfl,hγ⟩ := hv.ref_inv
 obtain ⟨es,h1,h2⟩ := R.idx hγ hh
 obtain ⟨dx,ta,tb,tc,td,va,vb,vc,vd,rfl,_⟩ := h2.inst_inv
 exact ⟨a,dx,ta,tb,tc,td,va,vb,vc,vd,rfl,⟨R.get h1 (.head _),rfl,rfl,R.get h1 (.tail _ (.head _))⟩⟩
structure Own (name : Str) (f : Addr) : Prop where
 hg : ∀ P,plainGet (hd.heap_1 P) 185 name = true
 hf : ∀ P,findIn (hd.heap_1 P) (.ref 185) name = some (some (.ref f))
 ht : ∀ P,isFn (hd.heap_1 P) (.ref f) = true
 hl : ∀ P a b c d va vb vc vd,getL name (flds P a b c d va vb vc vd) = some none
 hk : ∀ P,keepIn (hd.heap_1 P) (.ref f) = true
 hn : ∀ P,fnIn (hd.heap_1 P) f = true
noncomputable def fOwnM (fo : St → Option (AV × St)) (fa : St → Option (List AV × St)) (F : List AV → St → Option (AV × St)) (σ : St) : Option (AV × St) :=
 fo σ >>= fun p => if isI p.1 p.2 then fa p.2 >>= fun q => F (p.1 :: q.1) q.2 else none
structure Ok (ns : Sig) (n : Nat) : Prop where
 tm : ns.tm = true
 fn : ns.fn = true
 hand : ns.hand = true
 lim : ns.lim = n
theorem Fn.use {n : Nat} {f : Addr} {F : List AV → St → Option (AV × St)} (hF : Fn n f F) (ok : Ok ns n) (hn : cx.sig = ns) {xs : List AV} {v : AV} {σ' : St} (e : F xs σ = some (v,σ')) {vs : List Value} (R : Rel cx r σ s) (h : RVs r.K r.γ vs xs) {Q : Value → Shared → Prop} {E : Value → Shared → Prop}
  (hq : PV cx r σ s v σ' Q) : wpAny (model prg cx.w) cx.A (call (.ref f) vs) Q E s := by
 subst hn
 exact wpAny_call (hF cx ok.tm ok.fn ok.hand ok.lim σ xs v σ' e r s vs R h _ hq)
theorem se_own1 {o a : PySem.Expr} {as : List PySem.Expr} {name : Str} {ap pos : Pos} {pl : Env → Sem Bool} {f : Addr} {n : Nat} {fo : St → Option (AV × St)} {fa : St → Option (List AV × St)} {F : List AV → St → Option (AV × St)} (hF : Fn n f F) (ok : Ok ns n) (hw : Own name f) (ho : SE ns o fo) (ha : SA ns (a :: as) fa)
  (hev : ∀ env,eval (.Call (.Attribute o name ap) (a :: as) [] pos) env = (do let ov ← eval o env; standAt ap.atName; let (f,first) ← holding [ov] (getMethod ov name (pl env)); callWith pos f first (backTo pos (starEach (a :: as) env)) []) := by intro _; with_unfolding_all rfl)
  (he : ∀ env,starEach (a :: as) env = (false,eval a env) :: starEach as env := by intro _; with_unfolding_all rfl) (hplain : ∀ env,(backTo pos (starEach as env)).any (·.1) = false := by intro _; with_unfolding_all rfl) :
  SE ns (.Call (.Attribute o name ap) (a :: as) [] pos) (fOwnM fo fa F) := by
 refine ⟨?_⟩
 intro cx hn σ v σ' hf r s R Q E hq
 obtain ⟨⟨ov,σ1⟩,e1,e2⟩ := bS hf
 refine ifM e2 fun hp e2 => ?_
 obtain ⟨⟨xs,σ2⟩,e3,e4⟩ := bS e2
 refine MethodCall_ (ho.run cx hn _ _ _ e1 r s R _ _ fun r1 s1 co g1 R1 ro => ?_) (hev _)
 obtain ⟨b,dx,ta,tb,tc,td,va,vb,vc,vd,rfl,I⟩ := isI_ok R1 ro hp
 refine method_inst R1.F R1.X I (hw.hg _) (hw.hf _) (hw.ht _) (hw.hl ..) ?_
 refine callWith_K (K := hd.heap_1 cx.w.params) R1.X (hw.hk _) ?_ (he _) (hplain _)
 refine ha.run cx hn _ _ _ e3 r1 s1 R1 _ _ _ fun r2 s2 cv g2 R2 rv => ⟨R2.Xs,?_⟩
 refine hF.use ok hn e4 R2 (RVs.cons (ro.later g2.toLater) rv) fun r3 s3 cw g3 R3 rw => hq r3 s3 cw ((g1.trans g2).trans g3) R3 rw
theorem se_own0 {o : PySem.Expr} {name : Str} {ap pos : Pos} {pl : Env → Sem Bool} {f : Addr} {n : Nat} {fo : St → Option (AV × St)} {F : List AV → St → Option (AV × St)} (hF : Fn n f F) (ok : Ok ns n) (hw : Own name f) (ho : SE ns o fo)
  (hev : ∀ env,eval (.Call (.Attribute o name ap) [] [] pos) env = (do let ov ← eval o env; standAt ap.atName; let (f,first) ← holding [ov] (getMethod ov name (pl env)); callWith pos f first (backTo pos (starEach [] env)) []) := by intro _; with_unfolding_all rfl) :
  SE ns (.Call (.Attribute o name ap) [] [] pos) (fOwnM fo (fun σ => some ([],σ)) F) := by
 refine ⟨?_⟩
 intro cx hn σ v σ' hf r s R Q E hq
 obtain ⟨⟨ov,σ1⟩,e1,e2⟩ := bS hf
 refine ifM e2 fun hp e2 => ?_
 obtain ⟨⟨xs,σ2⟩,e3,e4⟩ := bS e2
 cases e3
 refine MethodCall_ (ho.run cx hn _ _ _ e1 r s R _ _ fun r1 s1 co g1 R1 ro => ?_) (hev _)
 obtain ⟨b,dx,ta,tb,tc,td,va,vb,vc,vd,rfl,I⟩ := isI_ok R1 ro hp
 refine method_inst R1.F R1.X I (hw.hg _) (hw.hf _) (hw.ht _) (hw.hl ..) ?_
 refine callWith_K0 (K := hd.heap_1 cx.w.params) R1.Xs (hw.hk _) ?_
 exact hF.use ok hn e4 R1 (RVs.cons ro ⟨rfl,fun i v x h => by simp at h⟩) fun r3 s3 cw g3 R3 rw => hq r3 s3 cw (g1.trans g3) R3 rw
end
noncomputable def nameAt : List (Str × NameKind) → Str → Nat → Option (Nat × NameKind)
 | [],_,_ => none
 | (y,kd) :: r,x,i => if x == y then (match kd with | .local => some (i,.local) | .cell => some (i,.cell) | _ => none) else nameAt r x (i + 1)
theorem at_name' {x : Str} {k : Nat} {kd : NameKind} : ∀ {names : List (Str × NameKind)} {i : Nat},nameAt names x i = some (k,kd) → ∃ j,k = i + j ∧ names[j]? = some (x,kd)
 | (y,kd') :: r,i,h => by
  unfold nameAt at h
  split at h
  ·rename_i e
   have e := eq_of_beq e
   subst e
   cases kd' <;> cases h <;> exact ⟨0,rfl,rfl⟩
  ·obtain ⟨j,h1,h2⟩ := at_name' h
   exact ⟨j + 1,by grind,h2⟩
theorem aN {names : List (Str × NameKind)} {x : Str} {k : Nat} {kd : NameKind} (h : nameAt names x 0 = some (k,kd)) : names[k]? = some (x,kd) := by
 obtain ⟨j,h1,h2⟩ := at_name' h
 rw [Nat.zero_add] at h1
 rw [h1]; exact h2
section
variable {ns : Sig} {cx : Cx} {r : Rt} {σ : St} {s : Shared}
noncomputable def spreadV (v : AV) (σ : St) : Option (List AV) := match v with
 | .fl xs => if xs.length ≤ 1000 then some xs else none
 | .ref n => (match σ.heap[n]? with
  | some (.list xs,_) => if xs.length ≤ 1000 then some xs else none
  | _ => none)
 | _ => none
theorem spO (R : Rel cx r σ s) {v : AV} {cv : Value} (hv : RV r.K r.γ cv v) {xs : List AV} (h : spreadV v σ = some xs) : ∃ a vs,cv = .ref a ∧ s.heap.IsList a vs.toArray ∧ vs.length ≤ 1000 ∧ RVs r.K r.γ vs xs := by
 unfold spreadV at h
 split at h
 ·refine ifM h fun _ h => ?_
  cases h
  obtain ⟨a,vs,rfl,hk,hl,hall⟩ := hv.fl_inv
  exact ⟨a,vs,rfl,R.kl hk,by rw [hl]; assumption,hl,hall⟩
 ·refine listM h fun ys k hh h => ?_
  refine ifM h fun _ h => ?_
  cases h
  obtain ⟨a,rfl,hγ⟩ := hv.ref_inv
  obtain ⟨es,h5,h6⟩ := R.idx hγ hh
  obtain ⟨vs,nn,rfl,h7⟩ := h6.list_inv
  exact ⟨a,vs,rfl,⟨_,R.get h5 (.head _),rfl,nn,rfl⟩,by rw [h7.1]; assumption,h7⟩
 ·cases h
theorem sa_star {e : PySem.Expr} {es : List PySem.Expr} {p : Pos} {f : St → Option (AV × St)} {g : St → Option (List AV × St)} (he : SE ns e f) (hes : SA ns es g) (hst : ∀ env,starEach (.Starred e p :: es) env = (true,eval e env) :: starEach es env := by intro _; rfl) :
  SA ns (.Starred e p :: es) (fun σ => f σ >>= fun q => spreadV q.1 q.2 >>= fun xs => g q.2 >>= fun t => some (xs ++ t.1,t.2)) := by
 refine ⟨?_⟩
 intro cx hn σ v σ' hf r s R pos Q E hq
 obtain ⟨⟨a,σ1⟩,h1,h2⟩ := bS hf
 obtain ⟨xs,h3,h4⟩ := bS h2
 obtain ⟨⟨b,σ2⟩,h5,h6⟩ := bS h4
 replace hq := hq.eq h6
 refine items_star (he.run cx hn _ _ _ h1 r s R _ _ fun r1 s1 ca g1 R1 ra => ?_) (hst _)
 obtain ⟨l,vs,rfl,hl,hz,hvs⟩ := spO R1 ra h3
 refine star_isList hl hz fun h' hk => ?_
 refine hes.run cx hn _ _ _ h5 r1 _ (R1.keep (tk := s1.toks) hk) pos _ _ fun r2 s2 cb g2 R2 rb => ?_
 have g2' := (Go.same (cx := cx) (r := r1) (σ := σ1) (s := s1) (h' := h') (tk := s1.toks)).trans g2
 exact hq r2 s2 _ (g1.trans g2') R2 ((hvs.later g2.toLater).append rb)
structure OwnB (name : Str) (f : Addr) : Prop extends Own name f where
 hh : ∀ P,hasDictIn (hd.heap_1 P) 185 = true
 hgf : ∀ P,specialIn (hd.heap_1 P) (.ref f) "__get__" = some (some (.builtin "function.__get__"))
 hta : ∀ P,takesIn (hd.heap_1 P) (.ref f) = some false
 hc : copiedNames.contains name = false
theorem se_star {o a : PySem.Expr} {as : List PySem.Expr} {name : Str} {ap pos : Pos} {f : Addr} {n : Nat} {fo : St → Option (AV × St)} {fa : St → Option (List AV × St)} {F : List AV → St → Option (AV × St)} (hF : Fn n f F) (ok : Ok ns n) (hw : OwnB name f) (ho : SE ns o fo) (ha : SA ns (a :: as) fa)
  (hev : ∀ env,eval (.Call (.Attribute o name ap) (a :: as) [] pos) env = (do
   let ov ← eval o env
   standAt ap.atName
   let fx ← holding [ov] (do pure (← getAttr ov name true,([] : List Value)))
   callWith pos fx.1 fx.2 (backTo pos (starEach (a :: as) env)) []) := by intro _; with_unfolding_all rfl)
  (he : ∀ env,starEach (a :: as) env = (false,eval a env) :: starEach as env := by intro _; with_unfolding_all rfl) (hst : ∀ env,(backTo pos (starEach as env)).any (·.1) = true := by intro _; with_unfolding_all rfl) :
  SE ns (.Call (.Attribute o name ap) (a :: as) [] pos) (fOwnM fo fa F) := by
 refine ⟨?_⟩
 intro cx hn σ v σ' hf r s R Q E hq
 obtain ⟨⟨ov,σ1⟩,e1,e2⟩ := bS hf
 refine ifM e2 fun hp e2 => ?_
 obtain ⟨⟨xs,σ2⟩,e3,e4⟩ := bS e2
 refine methodCall_star (ho.run cx hn _ _ _ e1 r s R _ _ fun r1 s1 co g1 R1 ro => ?_) (hev _)
 obtain ⟨b,dx,ta,tb,tc,td,va,vb,vc,vd,rfl,I⟩ := isI_ok R1 ro hp
 refine kbm_bound R1.F R1.X R1.N I (hw.hg _) (hw.hh _) (hw.hf _) (hw.ht _) (hw.hgf _) (hw.hta _) hw.hc (hw.hl ..) fun q h' F' N' lq => ?_
 obtain ⟨R2,g2⟩ := R1.fzn (tk := s1.toks + 1) F' N' lq
 refine callWith_MS (K := hd.heap_1 cx.w.params) (hw.hn _) (q := q) (self := .ref b) ?_ (he _) (hst _)
 refine ha.run cx hn _ _ _ e3 _ _ R2 _ _ _ fun r3 s3 cv g3 R3 rv => ?_
 have hm := R3.N _ (mR _ (mL _ (g3.K.fz _ (.head _))))
 refine ⟨⟨hm.1,R3.Xs⟩,?_⟩
 refine wpAny_call (method_call hm.1 ?_)
 have ro3 := (ro.later g2.toLater).later g3.toLater
 subst hn
 refine hF cx ok.tm ok.fn ok.hand ok.lim σ2 _ v σ' e4 r3 s3 _ R3 (RVs.cons ro3 rv) _ fun r4 s4 cw g4 R4 rw => hq r4 s4 cw (((g1.trans g2).trans g3).trans g4) R4 rw
end
section
local macro_rules | `(tactic| k_room) => `(tactic| ((try simp only [depth_under_make,depth_under_kw,depth_in1,depth_deeper,depth_caller]); (try dsimp only at *); (try unfold recursionLimit); omega))
local macro_rules | `(tactic| k_all) => `(tactic| assumption)
set_option maxRecDepth 100000 in
set_option maxHeartbeats 1600000 in
theorem newInfo_ok {w : World} {p : Program} {loose : List Str} {mg mb : Str → Option Value} {A₀ : Around} {base h₀ : Heap} {outer : List Env} {s : Shared} {L a : Addr} {m : Str → Option Value} {news : List (Addr × Obj)} {name : Str} {scope : Scope} {cd : Value} {k : Int} {t : Tok} {Q E : Value → Shared → Prop}
  (B : Below A₀ base outer h₀) (F : Fr h₀ L s.heap m) (X : (hd.heap_1 w.params).In h₀) (N : News h₀ L s.heap news) (T : TopRead p loose mg mb h₀) (hdp : A₀.depth ≤ 900) (hk : scope.kind = .function)
  (hQ : ∀ x d l h' tk tp tn,Fr h₀ L h' m → News h₀ L h' ((l,PySem.W.listOf #[] 0) :: (x,infO d l 0 tp k tn) :: (d,PySem.W.dictOf [] 0) :: news) → (∀ q ∈ news,q.1 < d) → d < x → x < l → Q (.ref x) { s with heap := h',toks := tk }) :
  wpAny (model PySem.Challenge.rw_oc0181_01.row.prog w) (A₀.deeper (envOf name scope L a cd)) (call (.ref 88) [.int k t]) Q E s := by
 revert X; k_fill; intro X
 obtain ⟨hd,dp,fr,gd,un⟩ := A₀
 dsimp only at hdp
 obtain rfl : fr = some outer := B.stack
 k_dflt (refine' call_cls ?k1 ?k2 ?k3 ?k4 ?k5 ?k6 ?_)
 case k1 => exact F
 case k2 => exact X
 case k3 => exact N
 case k4 => k_is
 case k5 => k_is
 case k6 => k_is
 intro x' d' h' F' N' l1 l2
 have n1 : ∀ q ∈ news,q.1 ≠ x' := fun q hq => Nat.ne_of_lt (Nat.lt_trans (l1 q hq) l2)
 have n2 : ∀ q ∈ news,q.1 ≠ d' := fun q hq => Nat.ne_of_lt (l1 q hq)
 k_lt2 l2
 refine' code_defT (env := envOf name scope L a cd) (binds := [(Str.ofString "self",.ref x'),(Str.ofString "node",.int k t)]) B F' X N' T ?kA ?kF hk ?k6 ?k7 ?k8 ?k9 ?kB ?_ ?c2 ?c3 ?c4 ?c5
 case kA => exact rfl
 case kF => exact rfl
 case k6 => k_is
 case k7 => k_is
 case k8 => k_room
 case k9 => exact BindsTo.of_eq rfl
 case c5 => decide
 case kB => exact locs rfl
 case c2 => exact rfl
 case c3 => exact rfl
 case c4 => exact rfl
 intro g' L' h2 FG' F2 N2 B' X' T'
 dsimp only
 k_steps
 have l3 := ‹@LT.lt Nat _ x' _ ∧ _›.1
 exact hQ x' d' _ _ _ _ _ (by assumption) (by assumption) l1 l2 l3
set_option maxRecDepth 100000 in
set_option maxHeartbeats 1600000 in
theorem newSorter_ok {w : World} {p : Program} {loose : List Str} {mg mb : Str → Option Value} {A₀ : Around} {base h₀ : Heap} {outer : List Env} {s : Shared} {L a : Addr} {m : Str → Option Value} {news : List (Addr × Obj)} {name : Str} {scope : Scope} {cd : Value} {Q E : Value → Shared → Prop}
  (B : Below A₀ base outer h₀) (F : Fr h₀ L s.heap m) (X : (hd.heap_1 w.params).In h₀) (N : News h₀ L s.heap news) (T : TopRead p loose mg mb h₀) (hdp : A₀.depth ≤ 900) (hk : scope.kind = .function)
  (hQ : ∀ x d l o h' tk ta tb tc td tp tq,Obj.IsDictOf (PySem.intKind PySem.Challenge.rw_oc0181_01.row.prog w) o [] → (l == sysModules) = false → Fr h₀ L h' m → News h₀ L h' ((l,o) :: (x,instObj 185 d) :: (d,PySem.W.dictOf (flds w.params ta tb tc td (.ref l) .none (.int 0 tp) (.int 0 tq)) 4) :: news) → (∀ q ∈ news,q.1 < d) → d < x → x < l → Q (.ref x) { s with heap := h',toks := tk }) :
  wpAny (model PySem.Challenge.rw_oc0181_01.row.prog w) (A₀.deeper (envOf name scope L a cd)) (call (.ref 185) []) Q E s := by
 revert X; k_fill; intro X
 obtain ⟨hd,dp,fr,gd,un⟩ := A₀
 dsimp only at hdp
 obtain rfl : fr = some outer := B.stack
 k_dflt (refine' call_cls ?k1 ?k2 ?k3 ?k4 ?k5 ?k6 ?_)
 case k1 => exact F
 case k2 => exact X
 case k3 => exact N
 case k4 => k_is
 case k5 => k_is
 case k6 => k_is
 intro x' d' h' F' N' l1 l2
 have n1 : ∀ q ∈ news,q.1 ≠ x' := fun q hq => Nat.ne_of_lt (Nat.lt_trans (l1 q hq) l2)
 have n2 : ∀ q ∈ news,q.1 ≠ d' := fun q hq => Nat.ne_of_lt (l1 q hq)
 k_lt2 l2
 refine' code_defT (env := envOf name scope L a cd) (binds := [(Str.ofString "self",.ref x'),(Str.ofString "graph",.none)]) B F' X N' T ?kA ?kF hk ?k6 ?k7 ?k8 ?k9 ?kB ?_ ?c2 ?c3 ?c4 ?c5
 case kA => exact rfl
 case kF => exact rfl
 case k6 => k_is
 case k7 => k_is
 case k8 => k_room
 case k9 => exact binds_K (X.keeps F'.keep) rfl (by k_is) rfl rfl rfl
 case c5 => decide
 case kB => exact locs rfl
 case c2 => exact rfl
 case c3 => exact rfl
 case c4 => exact rfl
 intro g' L' h2 FG' F2 N2 B' X' T'
 dsimp only
 k_steps
 have l3 := ‹@LT.lt Nat _ x' _ ∧ _›.1
 exact hQ x' d' _ _ _ _ _ _ _ _ _ _ (by assumption) (by assumption) (by assumption) (by assumption) l1 l2 l3
end
section
variable {ns : Sig} {cx : Cx} {r : Rt} {σ : St} {s : Shared}
theorem Rel.osn2 (R : Rel cx r σ s) (hm : cx.tm = true) {l x d : Addr} {ol ox od : Obj} {h' : Heap} {tk : Nat} (F' : Fr r.K.h0 cx.L h' r.m) (N' : News r.K.h0 cx.L h' ((l,ol) :: (x,ox) :: (d,od) :: (r.mu cx ++ (r.K.fz ++ r.it)))) (l1 : ∀ q ∈ r.mu cx ++ (r.K.fz ++ r.it),q.1 < d) (l2 : d < x) (l3 : x < l)
  {al ax : AO} (hl : ∀ K γ,RO prg cx.w K γ l al [(l,ol)]) (hx : ∀ K γ,γ[σ.heap.length]? = some l → RO prg cx.w K γ x ax [(x,ox),(d,od)]) :
  ∃ r',Go cx r σ s r' ⟨σ.env,σ.heap ++ [(al,0),(ax,0)]⟩ { s with heap := h',toks := tk } ∧ Rel cx r' ⟨σ.env,σ.heap ++ [(al,0),(ax,0)]⟩ { s with heap := h',toks := tk } ∧ RV r'.K r'.γ (.ref x) (.ref (σ.heap.length + 1)) ∧ r'.γ[σ.heap.length]? = some l := by
 have ll : ∀ q ∈ r.mu cx ++ (r.K.fz ++ r.it),q.1 < l := fun q hq => Nat.lt_trans (Nat.lt_trans (l1 q hq) l2) l3
 obtain ⟨R1,g1⟩ := R.osn (tk := tk) hm (es := [(l,ol)]) F' (fun p hp => N' p (by
  rcases List.mem_cons.mp hp with rfl | hp
  ·exact .head _
  ·exact .tail _ (.tail _ (.tail _ hp)))) (fun p hp q hq => by
   obtain rfl := List.mem_singleton.mp hq
   exact Nat.ne_of_lt (ll p hp)) (by simp) (hl _ _)
 have mu1 : Rt.mu { r with os := r.os ++ [(l,[(l,ol)])] } cx = r.mu cx ++ [(l,ol)] := by
  rw [mu_mut hm,mu_mut hm]
  show r.cs ++ (r.os ++ [(l,[(l,ol)])]).flatMap (·.2) = _
  rw [List.flatMap_append,List.append_assoc]
  simp [Rt.fl]
 have γ1 : Rt.γ { r with os := r.os ++ [(l,[(l,ol)])] } = r.γ ++ [l] := by
  show (r.os ++ [(l,[(l,ol)])]).map (·.1) = _
  rw [List.map_append]; rfl
 have gl : r.γ.length = σ.heap.length := by rw [R.len]; exact List.length_map ..
 have mem : ∀ p ∈ Rt.mu { r with os := r.os ++ [(l,[(l,ol)])] } cx ++ (r.K.fz ++ r.it),p = (l,ol) ∨ p ∈ r.mu cx ++ (r.K.fz ++ r.it) := fun p hp => by
  rw [mu1] at hp
  rcases mA hp with h | h
  ·rcases mA h with h | h
   ·exact .inr (mL _ h)
   ·exact .inl (List.mem_singleton.mp h)
  ·exact .inr (mR _ h)
 obtain ⟨R2,g2⟩ := R1.osn (tk := tk) (a := x) hm (es := [(x,ox),(d,od)]) F' (fun p hp => by
  rcases List.mem_cons.mp hp with rfl | hp
  ·exact N' _ (.tail _ (.head _))
  ·rcases List.mem_cons.mp hp with rfl | hp
   ·exact N' _ (.tail _ (.tail _ (.head _)))
   ·rcases mem p hp with rfl | hp
    ·exact N' _ (.head _)
    ·exact N' _ (.tail _ (.tail _ (.tail _ hp)))) (fun p hp q hq => by
   have hq : q = (x,ox) ∨ q = (d,od) := by simpa using hq
   rcases mem p hp with rfl | hp <;> rcases hq with rfl | rfl
   ·exact (Nat.ne_of_lt l3).symm
   ·exact (Nat.ne_of_lt (Nat.lt_trans l2 l3)).symm
   ·exact Nat.ne_of_lt (Nat.lt_trans (l1 p hp) l2)
   ·exact Nat.ne_of_lt (l1 p hp)) (by
   simp
   exact (Nat.ne_of_lt l2).symm) (hx _ _ (by rw [γ1,← gl]; exact pre_get (by simp)))
 have e : σ.heap ++ [(al,0)] ++ [(ax,0)] = σ.heap ++ [(al,0),(ax,0)] := by simp
 dsimp only at R2 g2
 rw [e] at R2 g2
 have γ2 : Rt.γ { r with os := r.os ++ [(l,[(l,ol)])] ++ [(x,[(x,ox),(d,od)])] } = r.γ ++ [l] ++ [x] := by
  show (r.os ++ [(l,[(l,ol)])] ++ [(x,[(x,ox),(d,od)])]).map (·.1) = _
  rw [List.map_append,List.map_append]; rfl
 refine ⟨_,g1.trans g2,R2,.ref _ _ ?_,?_⟩
 ·rw [γ2,← gl]; simp
 ·rw [γ2,← gl]; exact pre_get (by simp)
theorem Rel.spot (R : Rel cx r σ s) (hfn : cx.fn = true) (hown : cx.own = []) : ∃ (A₀ : Around) (outer : List Env) (name : Str) (scope : Scope) (a : Addr) (cd : Value),cx.A = A₀.deeper (envOf name scope cx.L a cd) ∧ Below A₀ cx.base outer r.K.h0 ∧ A₀.depth ≤ 900 ∧ scope.kind = .function := by
 refine cx.hfnE hfn fun A₀ outer name sc a cd henv how hA hB _ _ => ?_
 have henv : cx.env = envOf name sc cx.L a cd := by rw [henv]; exact envC_plain (plain_own (n := cx.L + 1) (by rw [← how]; exact hown))
 refine ⟨A₀,outer,name,sc,a,cd,by rw [hA,henv],hB _ R.G,?_,?_⟩
 ·have h1 := cx.hk.1
  have h2 := cx.hlim
  rw [hA] at h1
  have : A₀.depth ≤ (A₀.deeper cx.env).depth := Nat.le_succ _
  lia
 ·have := cx.hf
  rw [henv] at this
  exact this
noncomputable def fInfo (fa : St → Option (AV × St)) (σ : St) : Option (AV × St) := fa σ >>= fun p => match p.1 with
 | .int k => some (.ref (p.2.heap.length + 1),⟨p.2.env,p.2.heap ++ [(.list [],0),(.info k 0 p.2.heap.length,0)]⟩)
 | _ => none
theorem se_info {x : Str} {a : PySem.Expr} {xp pos : Pos} {fa : St → Option (AV × St)} (tm : ns.tm = true) (hfn : ns.fn = true) (hown : ns.own = []) (ha : SE ns a fa) (hx : ns.names.lookup x = some .globalImplicit) (hv : ∀ P,nsIn (hd.heap_1 P) mainGlobals x = some (some (.ref 88))) (hd' : (x == ("__debug__" : Str)) = false) (hk : ∀ P,keepIn (hd.heap_1 P) (.ref 88) = true)
  (hev : ∀ env,eval (.Call (.Name x xp) [a] [] pos) env = (do callWith pos (← eval (.Name x xp) env) [] (backTo pos (starEach [a] env)) (backToKw pos (keywordEach [] env))) := by intro _; with_unfolding_all rfl)
  (he : ∀ env,starEach [a] env = (false,eval a env) :: starEach [] env := by intro _; with_unfolding_all rfl) :
  SE ns (.Call (.Name x xp) [a] [] pos) (fInfo fa) := by
 refine ⟨?_⟩
 intro cx hn σ v σ' hf r s R Q E hq
 obtain ⟨⟨av,σ1⟩,e1,e2⟩ := bS hf
 refine intM e2 fun k eM e2 => ?_
 subst eM
 replace hq := hq.eq e2
 have hm := tmOf hn tm
 have hf1 : cx.fn = true := by rw [← hn] at hfn; exact hfn
 refine Call_ (nmK R.Fe R.X R.T (hv _) ?_ cx.hg cx.hf (show cx.names.lookup x = _ by rw [nO hn]; exact hx) hd') (hev _)
 refine callWith_K (K := hd.heap_1 cx.w.params) R.X (hk _) ?_ (he _) rfl
 refine args_cons (ha.run cx hn _ _ _ e1 r s R _ _ fun r1 s1 cv g1 R1 rv => args_nil ⟨R1.Xs,?_⟩) (he _)
 obtain ⟨t,rfl⟩ := rv.int_inv
 obtain ⟨A₀,outer,name,sc,ad,cd,hA,B,hdp,hsk⟩ := R1.spot hf1 (by rw [← hn] at hown; exact List.map_eq_nil_iff.mp hown)
 rw [hA]
 refine newInfo_ok B R1.F R1.X R1.N R1.T hdp hsk fun x d l h' tk tp tn F' N' l1 l2 l3 => ?_
 obtain ⟨r',g',R',rv',_⟩ := R1.osn2 (tk := tk) (al := .list []) (ax := .info k 0 σ1.heap.length) hm F' N' l1 l2 l3 (fun K γ => .list _ [] [] _ ⟨rfl,fun i v x h => by simp at h⟩) (fun K γ h => .info _ _ _ _ _ _ _ _ h)
 exact hq _ _ _ (g1.trans g') R' rv'
theorem se_sorter {x : Str} {xp pos : Pos} (tm : ns.tm = true) (hfn : ns.fn = true) (hown : ns.own = []) (hx : ns.names.lookup x = some .globalImplicit) (hv : ∀ P,nsIn (hd.heap_1 P) mainGlobals x = some (some (.ref 185))) (hd' : (x == ("__debug__" : Str)) = false) (hk : ∀ P,keepIn (hd.heap_1 P) (.ref 185) = true)
  (hev : ∀ env,eval (.Call (.Name x xp) [] [] pos) env = (do callWith pos (← eval (.Name x xp) env) [] (backTo pos (starEach [] env)) (backToKw pos (keywordEach [] env))) := by intro _; with_unfolding_all rfl) :
  SE ns (.Call (.Name x xp) [] [] pos) (fun σ => some (.ref (σ.heap.length + 1),⟨σ.env,σ.heap ++ [(.dict [],0),(.inst (.ref σ.heap.length) .none (.int 0) (.int 0),0)]⟩)) := by
 refine ⟨?_⟩
 intro cx hn σ v σ' hf r s R Q E hq
 replace hq := hq.eq hf
 have hm := tmOf hn tm
 have hf1 : cx.fn = true := by rw [← hn] at hfn; exact hfn
 refine Call_ (nmK R.Fe R.X R.T (hv _) ?_ cx.hg cx.hf (show cx.names.lookup x = _ by rw [nO hn]; exact hx) hd') (hev _)
 refine callWith_K0 (K := hd.heap_1 cx.w.params) R.Xs (hk _) ?_
 obtain ⟨A₀,outer,name,sc,ad,cd,hA,B,hdp,hsk⟩ := R.spot hf1 (by rw [← hn] at hown; exact List.map_eq_nil_iff.mp hown)
 rw [hA]
 refine newSorter_ok B R.F R.X R.N R.T hdp hsk fun x d l o h' tk ta tb tc td tp tq ho lo F' N' l1 l2 l3 => ?_
 obtain ⟨r',g',R',rv',_⟩ := R.osn2 (tk := tk) (al := .dict []) (ax := .inst (.ref σ.heap.length) .none (.int 0) (.int 0)) hm F' N' l1 l2 l3 (fun K γ => .dict _ _ [] [] ho lo rfl ⟨rfl,fun i v x h => by simp at h⟩) (fun K γ h => .inst _ _ _ _ _ _ _ _ _ _ _ _ _ _ (.ref _ _ h) .none (.int _ _) (.int _ _))
 exact hq _ _ _ g' R' rv'
end
section
variable {ns : Sig} {cx : Cx} {r : Rt} {σ : St} {s : Shared}
theorem se_neg {i : Int} {k : Nat} {pos p : Pos} : SE ns (.UnaryOp .USub (.Constant (.int i) k p) pos) (fun σ => some (.int (-i),σ)) := by
 refine ⟨?_⟩
 intro cx hn σ v σ' hf r s R Q E hq
 replace hq := hq.eq hf
 refine UnaryOp_ (wpAny_Constant_int (neg_int (hq r _ _ .same R.tok (.int _ _))))
end
noncomputable def relN (out names : List (Str × NameKind)) : List (Str × NameKind) := names.map fun (n,k) => if (k == .free && out.lookup n == some .cell) then (n,.cell) else (n,k)
theorem relabel_names {scope : Scope} {env : Env} (h : env.scope.kind = .function) : (relabel scope env).names = relN env.scope.names scope.names := by
 unfold relabel relN
 dsimp only
 rw [h]
 simp only [beq_self_eq_true,Bool.and_true]
 rfl
theorem relN_fst {out names : List (Str × NameKind)} : (relN out names).map (·.1) = names.map (·.1) := by
 unfold relN
 rw [List.map_map]
 refine List.map_congr_left fun p _ => ?_
 obtain ⟨n,k⟩ := p
 show (if _ then (n,NameKind.cell) else (n,k)).1 = n
 split <;> rfl
theorem closure_ok {scope : Scope} {env : Env} (h : ∀ x,(x,NameKind.free) ∈ scope.names → ∃ c,env.cells.lookup x = some c) : ∃ cl,closureFor scope env = pure cl ∧ ∀ x,(x,NameKind.free) ∈ scope.names → cl.lookup x = env.cells.lookup x := by
 simp only [closureFor]
 have go : ∀ (names : List (Str × NameKind)) (acc : List (Str × Addr)),(∀ x,(x,NameKind.free) ∈ names → ∃ c,env.cells.lookup x = some c) → (∀ x c,acc.lookup x = some c → env.cells.lookup x = some c) →
   ∃ cl,(forIn names acc fun (x : Str × NameKind) (r : List (Str × Addr)) => if (x.2 == NameKind.free) = true then do let a ← cellOf env x.1; pure (ForInStep.yield ((x.1,a) :: r)) else pure (ForInStep.yield r)) = (pure cl : Sem _) ∧ (∀ x,(x,NameKind.free) ∈ names → cl.lookup x = env.cells.lookup x) ∧ (∀ x c,acc.lookup x = some c → cl.lookup x = some c) := by
  intro names
  induction names with
  | nil => intro acc _ _; exact ⟨acc,by rw [List.forIn_nil],fun x hx => (nomatch hx),fun _ _ e => e⟩
  | cons y r ih =>
   intro acc h1 h2
   obtain ⟨n,k⟩ := y
   rw [List.forIn_cons]
   by_cases hk : k = .free
   ·subst hk
    obtain ⟨c,hc⟩ := h1 n (.head _)
    have e : cellOf env n = pure c := by unfold cellOf; rw [hc]
    have h2' : ∀ x d,List.lookup x ((n,c) :: acc) = some d → env.cells.lookup x = some d := fun x d e => by
     rw [List.lookup_cons] at e
     split at e
     ·rename_i q
      rw [eq_of_beq q,hc]; exact e
     ·exact h2 x d e
    obtain ⟨cl,g1,g2,g3⟩ := ih ((n,c) :: acc) (fun x hx => h1 x (.tail _ hx)) h2'
    refine ⟨cl,?_,fun x hx => ?_,fun x d e5 => ?_⟩
    ·simp only [beq_self_eq_true,if_true,e,pure_bind]
     exact g1
    ·rcases List.mem_cons.mp hx with hx | hx
     ·cases hx
      rw [hc]; exact g3 n c (by rw [List.lookup_cons]; simp)
     ·exact g2 x hx
    ·by_cases q : x = n
     ·subst q
      have := h2 x d e5
      rw [hc] at this
      cases this
      exact g3 x c (by rw [List.lookup_cons]; simp)
     ·refine g3 x d ?_
      rw [List.lookup_cons,(beq_eq_false_iff_ne.mpr q)]
      exact e5
   ·have hk' : (k == NameKind.free) = false := by simpa using hk
    obtain ⟨cl,g1,g2,g3⟩ := ih acc (fun x hx => h1 x (.tail _ hx)) h2
    refine ⟨cl,?_,fun x hx => ?_,g3⟩
    ·simp only [hk',Bool.false_eq_true,if_false,pure_bind]
     exact g1
    ·rcases List.mem_cons.mp hx with hx | hx
     ·cases hx; exact absurd rfl hk
     ·exact g2 x hx
 obtain ⟨cl,g1,g2,_⟩ := go scope.names [] h fun _ _ e => by cases e
 exact ⟨cl,by
  show (forIn scope.names [] _ >>= pure) = _
  rw [bind_pure]
  exact g1,g2⟩
section
variable {ns : Sig} {cx : Cx} {r : Rt} {σ : St} {s : Shared}
noncomputable def blkK (r : Rt) (h : Heap) : Kno := ⟨fun a => r.K.kn a ∨ ∃ o,(a,o) ∈ r.K.fz,h,[]⟩
noncomputable def okC (scope : Scope) (cl : List (Str × Addr)) (C : Addr) : Prop := ∀ x c,(x,NameKind.free) ∈ scope.names → cl.lookup x = some c → @LE.le Nat _ c C
open Classical in
noncomputable def blkOwn (scope : Scope) (cl : List (Str × Addr)) (C : Addr) : List (Str × Addr) := if okC scope cl C then ownOf (C + 1) scope.names else []
theorem relN_cell {out names : List (Str × NameKind)} {x : Str} : (relN out names).lookup x = some .cell → names.lookup x = some .cell ∨ names.lookup x = some .free := by
 induction names with
 | nil => intro h; cases h
 | cons y r ih =>
  obtain ⟨y,k⟩ := y
  intro h
  by_cases e : x == y
  ·have h1 : (relN out ((y,k) :: r)).lookup x = some (if (k == .free && out.lookup y == some .cell) then NameKind.cell else k) := by
    unfold relN
    rw [List.map_cons]
    dsimp only
    split
    ·rw [List.lookup_cons,e]
    ·rw [List.lookup_cons,e]
   rw [h1] at h
   rw [List.lookup_cons,e]
   split at h
   ·rename_i q
    simp only [Bool.and_eq_true,beq_iff_eq] at q
    exact .inr (by rw [q.1])
   ·exact .inl h
  ·have e' : (x == y) = false := by simpa using e
   have h1 : (relN out ((y,k) :: r)).lookup x = (relN out r).lookup x := by
    unfold relN
    rw [List.map_cons]
    dsimp only
    split
    ·rw [List.lookup_cons,e']
    ·rw [List.lookup_cons,e']
   rw [h1] at h
   rw [List.lookup_cons,e']
   exact ih h
noncomputable def blkCx (cx : Cx) (scope : Scope) (cl : List (Str × Addr)) (C : Addr) (R : Rel cx r σ s) (hk : scope.kind = .function) (hnd : ((relN cx.names scope.names).map (·.1)).Nodup) : Cx where
 w := cx.w
 A := cx.A
 env := compEnvC scope (cellsFrom (C + 1) scope.names cl) C cx.env
 L := C
 base := cx.base
 stk := cx.stk
 k := cx.k
 lim := cx.lim
 tm := false
 hand := cx.hand
 fn := false
 G := fun h => h = s.heap
 Tn := fun h h' => h' = h
 S := fun a b => b = { a with heap := b.heap,toks := b.toks }
 p := cx.p
 loose := cx.loose
 mg := cx.mg
 mb := cx.mb
 own := blkOwn scope cl C
 ndn := by
  show ((relabel scope cx.env).names.map (·.1)).Nodup
  rw [relabel_names cx.hf]; exact hnd
 hh := fun q => cx.hh q
 hk := cx.hk
 hlim := cx.hlim
 hL := rfl
 hf := hk
 hg := cx.hg
 hb := cx.hb
 XB := cx.XB
 TB := cx.TB
 bm := cx.bm
 gS := fun h e => by subst e; exact fun b o q => R.F.keep _ _ (cx.gS _ R.G b o q)
 gB := fun h0 h m e F => by subst e; exact cx.gB _ _ _ R.G (fr_stay R.F F.keep)
 hfn := fun q => Bool.noConfusion q
 sS := fun _ _ _ => rfl
 sG := fun q => Bool.noConfusion q
 sT := fun a b c x y => by rw [y,x]
 tr := fun _ => rfl
 tt := fun _ _ _ a b => b.trans a
 tl := fun h h' e a o q => by subst e; exact ⟨o.slots,q⟩
 oc := fun q h => by
  unfold blkOwn at h
  split at h
  ·rw [relN_fst] at hnd
   exact ownOf_cells hnd h
  ·cases h
 oi := fun x y c h1 h2 h3 => by
  unfold blkOwn at h3
  split at h3
  ·rename_i ok
   have h1 : (relabel scope cx.env).names.lookup x = some .cell := h1
   rw [relabel_names cx.hf] at h1
   rw [relN_fst] at hnd
   rcases relN_cell h1 with h | h
   ·obtain ⟨q,hq,e⟩ : ∃ q ∈ ownOf (C + 1) scope.names,q.1 = x := by
     have : x ∈ ownN scope.names := List.mem_map.mpr ⟨(x,.cell),List.mem_filter.mpr ⟨mem_of_lookup h,rfl⟩,rfl⟩
     rw [← ownOf_fst scope.names (C + 1)] at this
     obtain ⟨q,a,b⟩ := List.mem_map.mp this
     exact ⟨q,a,b⟩
    have h4 : (cellsFrom (C + 1) scope.names cl).lookup x = some c := h2
    have h5 := ownOf_cells (acc := cl) hnd hq
    rw [e,h4] at h5
    cases h5
    have h6 := ownOf_cells (acc := []) hnd h3
    have h7 := ownOf_cells (acc := []) hnd hq
    exact ownOf_inj (acc := []) (x := x) (y := y) (c := q.2) (by rw [← e]; exact h7) h3 fun d hd => (nomatch hd)
   ·refine ownOf_inj (acc := cl) ?_ h3 ?_
    ·exact h2
    ·exact fun d hd => Nat.lt_succ_of_le (ok x d (mem_of_lookup h) hd)
  ·cases h3
theorem blkSig {scope : Scope} {cl : List (Str × Addr)} {C : Addr} {R : Rel cx r σ s} {hk : scope.kind = .function} {hnd : ((relN cx.names scope.names).map (·.1)).Nodup} (ok : okC scope cl C) : (blkCx cx scope cl C R hk hnd).sig = ⟨relN cx.names scope.names,false,cx.hand,false,cx.lim,ownN scope.names,cx.env.code⟩ := by
 show Sig.mk (relabel scope cx.env).names false cx.hand false cx.lim ((blkOwn scope cl C).map (·.1)) cx.env.code = _
 rw [relabel_names cx.hf]
 unfold blkOwn
 rw [if_pos ok,ownOf_fst]; rfl
theorem RV.block (R : Rel cx r σ s) {v : Value} {x : AV} (h : RV r.K r.γ v x) : RV (blkK r s.heap) r.γ v x := by
 have fzAt : ∀ p ∈ r.K.fz,s.heap.get? p.1 = some p.2 := fun p hp => (R.N p (mR _ (mL _ hp))).1
 refine h.mono (fun a vs q => ?_) (fun a vs q => ?_) (fun a b q => ?_) fun _ _ e => e
 ·rcases q with ⟨h1,h2⟩ | ⟨n,h1⟩
  ·exact .inl ⟨.inl h1,h2.at fun o e => R.F.keep _ _ e⟩
  ·exact .inl ⟨.inr ⟨_,h1⟩,_,fzAt _ h1,rfl,⟨n,rfl⟩,rfl⟩
 ·rcases q with ⟨h1,o,h2,h3⟩ | ⟨n,h1⟩
  ·exact .inl ⟨.inl h1,o,R.F.keep _ _ h2,h3⟩
  ·exact .inl ⟨.inr ⟨_,h1⟩,_,fzAt _ h1,rfl,n,rfl⟩
 ·rcases q with ⟨h1,o,h2,h3⟩ | h1
  ·exact .inl ⟨.inl h1,o,R.F.keep _ _ h2,h3⟩
  ·exact .inl ⟨.inr ⟨_,h1⟩,_,fzAt _ h1,rfl,rfl⟩
theorem RV.unblock (R : Rel cx r σ s) {K1 K2 : Kno} {γ : List Addr} (hkn : K1.kn = (blkK r s.heap).kn) (h0 : K1.h0 = s.heap) (h2 : K2.h0 = r.K.h0) (k2 : K2.kn = r.K.kn) (hfz : ∀ p ∈ r.K.fz,p ∈ K2.fz) (hfz1 : ∀ p ∈ K1.fz,p ∈ K2.fz) {v : Value} {x : AV} (h : RV K1 γ v x) : RV K2 γ v x := by
 refine RV.leave (r := r) (K1 := K1) (K2 := K2) (g := s.heap) (fs := []) (fun a ha => by rw [hkn] at ha; exact ha) (by rw [h0]; exact .refl) (fun p hp => (R.N p (mR _ (mL _ hp))).1) R.pl (fun a ha => ?_) k2 hfz hfz1 h
 obtain ⟨o,ho⟩ := R.kh a ha
 exact ⟨o,R.F.keep _ _ ho,o.slots,by rw [h2]; exact ho⟩
noncomputable def cmOk (out names : List (Str × NameKind)) (cm : List (Option Nat)) : Bool := cm.length == names.length && (names.zip cm).all fun q => match q with
 | ((x,.free),some k) => out[k]? == some (x,.cell) && out.lookup x == some .cell
 | ((_,.free),none) => false
 | (_,none) => true
 | _ => false
noncomputable def blkE (cm : List (Option Nat)) (σ : St) : List (Option AV) := cm.map fun o => o.bind fun k => getE k σ
noncomputable def blkIn (cm : List (Option Nat)) (σ : St) : Bool := cm.all fun o => match o with | some k => (getE k σ).isSome | none => true
theorem cmOk_at {out names : List (Str × NameKind)} {cm : List (Option Nat)} (h : cmOk out names cm = true) {j : Nat} {x : Str} {kd : NameKind} (hj : names[j]? = some (x,kd)) :
  (kd = .free → ∃ k,cm[j]? = some (some k) ∧ out[k]? = some (x,.cell) ∧ out.lookup x = some .cell) ∧ (∀ k,cm[j]? = some (some k) → kd = .free) := by
 unfold cmOk at h
 rw [Bool.and_eq_true] at h
 obtain ⟨h1,h2⟩ := h
 have h1 : cm.length = names.length := by simpa using h1
 have hlt : j < cm.length := by rw [h1]; exact (List.getElem?_eq_some_iff.mp hj).1
 have hc : cm[j]? = some cm[j] := List.getElem?_eq_getElem hlt
 have hm : ((x,kd),cm[j]) ∈ names.zip cm := by
  refine List.mem_of_getElem? (i := j) ?_
  rw [List.getElem?_zip_eq_some]
  exact ⟨hj,hc⟩
 have := List.all_eq_true.mp h2 _ hm
 rw [hc]
 cases hk : cm[j] with
 | none =>
  rw [hk] at this
  refine ⟨fun e => ?_,fun k e => by cases e⟩
  subst e
  cases this
 | some k =>
  rw [hk] at this
  cases kd <;> first | (cases this; done) | skip
  simp only [Bool.and_eq_true,beq_iff_eq] at this
  exact ⟨fun _ => ⟨k,rfl,this.1,this.2⟩,fun _ _ => rfl⟩
end
structure SI (ns : Sig) (ifs : List PySem.Expr) (f : St → Option (Bool × St)) : Prop where
 run : ∀ cx : Cx,cx.sig = ns → ∀ σ b σ',f σ = some (b,σ') → ∀ r s,Rel cx r σ s → ∀ (Q : Bool → Shared → Prop) (E : Value → Shared → Prop),
  PB cx r σ s b σ' Q → wpAny (model prg cx.w) cx.A (forIn ifs true fun c r => if r = true then do let ok ← isTrue c cx.env (eval c cx.env); pure (ForInStep.yield ok) else pure (ForInStep.yield r)) Q E s
noncomputable def compS (ta : AV → St → Option St) (fi : St → Option (Bool × St)) (fe : St → Option (AV × St)) : List AV → List AV → St → Option (List AV × St)
 | acc,[],σ => some (acc,σ)
 | acc,x :: xs,σ => ta x σ >>= fun σ1 => fi σ1 >>= fun p => if p.1 then fe p.2 >>= fun q => compS ta fi fe (acc ++ [q.1]) xs q.2 else compS ta fi fe acc xs p.2
section
variable {ns : Sig} {cx : Cx} {r : Rt} {σ : St} {s : Shared}
theorem si_nil : SI ns [] (fun σ => some (true,σ)) := by
 refine ⟨?_⟩
 intro cx hn σ b σ' hf r s R Q E hq
 replace hq := hq.eq hf
 rw [List.forIn_nil]
 exact wpAny_pure (hq r s .refl R)
theorem si_one {c : PySem.Expr} {f : St → Option (Bool × St)} (h : ST ns c f) : SI ns [c] f := by
 refine ⟨?_⟩
 intro cx hn σ b σ' hf r s R Q E hq
 rw [List.forIn_cons]
 simp only [if_true]
 refine wpAny_bind (wpAny_bind (h.run cx hn _ _ _ hf r s R _ _ fun r' s' g' R' => wpAny_pure ?_))
 dsimp only
 rw [List.forIn_nil]
 exact wpAny_pure (hq r' s' g' R')
theorem Rel.fzs (R : Rel cx r σ s) {fz' : Led} {h' : Heap} {tk : Nat} (k : s.heap.StaysIn h') (hz : ∀ p ∈ fz',h'.get? p.1 = some p.2 ∧ s.heap.get? p.1 = none) (hpl : ∀ p ∈ fz',p.2.dict = none ∧ p.2.slots = #[]) :
  Rel cx { r with K := { r.K with fz := r.K.fz ++ fz' } } σ { s with heap := h',toks := tk } ∧ Go cx r σ s { r with K := { r.K with fz := r.K.fz ++ fz' } } σ { s with heap := h',toks := tk } := by
 have L : Later cx r { r with K := { r.K with fz := r.K.fz ++ fz' } } := ⟨⟨fun _ q => mL _ q,rfl,fun _ o e => ⟨o.slots,e⟩⟩,⟨[],(List.append_nil _).symm⟩,cx.tr _⟩
 have far : ∀ p ∈ r.mu cx ++ (r.K.fz ++ r.it),∀ q ∈ fz',p.1 ≠ q.1 := fun p hp q hq e => by
  have := (R.N p hp).1
  rw [e,(hz q hq).2] at this
  cases this
 refine ⟨⟨⟨R.nd,?_,?_,?_,R.lv,R.G,R.kh,?_,R.len,?_,R.cc⟩,fr_stay R.F k,fun p hp => ?_⟩,L,⟨fun j ao n h => ⟨ao,n,h,Nat.le_refl _,fun _ => rfl⟩,rfl,rfl⟩,cx.sS ..,fun _ => ⟨rfl,rfl⟩⟩
 ·intro p hp q hq
  rcases mA hq with hq | hq
  ·rcases mA hq with hq | hq
   ·exact R.dj p hp q (mL _ hq)
   ·exact far p (mL _ hp) q hq
  ·exact R.dj p hp q (mR _ hq)
 ·intro p hp q hq
  rcases mA hp with hp | hp
  ·exact R.di p hp q hq
  ·exact (far q (mR _ (mR _ hq)) p hp).symm
 ·intro p hp
  rcases mA hp with hp | hp
  ·exact R.pl p hp
  ·exact hpl p hp
 ·intro k av e
  obtain ⟨x,kd,v,h1,h2,h3,h4⟩ := R.E k av e
  exact ⟨x,kd,v,h1,h2,h3,h4.later L⟩
 ·intro i ao n e
  obtain ⟨b,es,h1,h2⟩ := R.H i ao n e
  exact ⟨b,es,h1,h2.later L⟩
 ·have old : p ∈ r.mu cx ++ (r.K.fz ++ r.it) ∨ p ∈ fz' := by
   rcases mA hp with h | h
   ·exact .inl (mL _ h)
   ·rcases mA h with h | h
    ·rcases mA h with h | h
     ·exact .inl (mR _ (mL _ h))
     ·exact .inr h
    ·exact .inl (mR _ (mR _ h))
  rcases old with h | h
  ·exact ⟨k _ _ (R.N p h).1,(R.N p h).2⟩
  ·obtain ⟨h1,h2⟩ := hz p h
   refine ⟨h1,fun e => ?_,?_⟩
   ·obtain ⟨o,_,_,ho,_⟩ := R.F.ns
    rw [← e,h2] at ho
    cases ho
   ·cases z : r.K.h0.get? p.1 with
    | none => rfl
    | some o => rw [R.F.keep _ _ z] at h2; cases h2
structure CJ (R : Rel cx r σ s) (scope : Scope) (cl : List (Str × Addr)) (hk : scope.kind = .function) (hnd : ((relN cx.names scope.names).map (·.1)).Nodup) (ta : AV → St → Option St) (fi : St → Option (Bool × St)) (fe : St → Option (AV × St)) (xs res : List AV) (σe : St)
  (C : Addr) (i : Nat) (ys : List Value) (r' : Rt) (σ' : St) (ysA : List AV) (news : Led) : Prop where
 P : RelP (blkCx cx scope cl C R hk hnd) r' σ'
 it : r'.it = []
 n1 : ∀ p ∈ r'.cs ++ r'.K.fz,p ∈ news
 n2 : ∀ p ∈ news,p ∈ r'.cs ++ r'.K.fz
 vs : RVs r'.K r'.γ ys ysA
 le : Kno.Le (blkK r s.heap) r'.K
 os : r'.os = r.os ∧ σ'.heap = σ.heap
 ln : ysA.length ≤ i ∧ i ≤ xs.length
 go : compS ta fi fe ysA (xs.drop i) σ' = some (res,σe)
theorem blk_mu {scope : Scope} {cl : List (Str × Addr)} {C : Addr} {R : Rel cx r σ s} {hk : scope.kind = .function} {hnd : ((relN cx.names scope.names).map (·.1)).Nodup} {r' : Rt} : r'.mu (blkCx cx scope cl C R hk hnd) = r'.cs := rfl
theorem comp_turn {elt target : PySem.Expr} {ifs : List PySem.Expr} {ns' : Sig} {ta : AV → St → Option St} {fi : St → Option (Bool × St)} {fe : St → Option (AV × St)} (R : Rel cx r σ s) {scope : Scope} {cl : List (Str × Addr)} (hk : scope.kind = .function) (hnd : ((relN cx.names scope.names).map (·.1)).Nodup)
  (hs' : (⟨relN cx.names scope.names,false,cx.hand,false,cx.lim,ownN scope.names,cx.env.code⟩ : Sig) = ns') (hlow : ∀ x c,(x,NameKind.free) ∈ scope.names → cl.lookup x = some c → @LT.lt Nat _ c s.heap.objs.size) (hta : AS ns' target ta) (hfi : SI ns' ifs fi) (hfe : SE ns' elt fe) {xs res : List AV} {σe : St}
  {C D I : Addr} {i : Nat} {v : Value} {x : AV} {ys : List Value} {r' : Rt} {σ' : St} {ysA : List AV} {news : Led} {io : Obj} {h : Heap} {tk no : Nat} (hx : xs[i]? = some x) (hv : RV r.K r.γ v x)
  (J : CJ R scope cl hk hnd ta fi fe xs res σe C i ys r' σ' ysA news) (hne : ∀ p ∈ news,p.1 ≠ I ∧ p.1 ≠ D) (F : Fr s.heap C h r'.m) (N : News s.heap C h ((I,io) :: (D,PySem.W.listOf (List.toArray ys) no) :: news)) :
  let cenv := compEnvC scope (cellsFrom (C + 1) scope.names cl) C cx.env
  let JJ := fun i ys m news => ∃ r' σ' ysA,r'.m = m ∧ CJ R scope cl hk hnd ta fi fe xs res σe C i ys r' σ' ysA news
  wpAny (model prg cx.w) cx.A (assign target cenv v) (fun _ s₂ =>
   wpAny (model prg cx.w) cx.A (forIn ifs true fun c r => if r = true then do let ok ← isTrue c cenv (eval c cenv); pure (ForInStep.yield ok) else pure (ForInStep.yield r)) (fun ok s₃ =>
    if ok = true then wpAny (model prg cx.w) cx.A (eval elt cenv) (fun y s₄ => CEnd s.heap C I io D no ys (JJ (i + 1) (ys ++ [y])) { s with heap := h,toks := tk } s₄) (fun _ _ => False) s₃
    else CEnd s.heap C I io D no ys (JJ (i + 1) ys) { s with heap := h,toks := tk } s₃) (fun _ _ => False) s₂) (fun _ _ => False) { s with heap := h,toks := tk } := by
 intro cenv JJ
 have hi : i < xs.length := (List.getElem?_eq_some_iff.mp hx).1
 have hdrop : xs.drop i = x :: xs.drop (i + 1) := by
  rw [List.drop_eq_getElem_cons hi]
  rw [List.getElem?_eq_getElem hi] at hx
  cases hx; rfl
 have go := J.go
 rw [hdrop] at go
 obtain ⟨σ1,e1,go⟩ := bS go
 obtain ⟨⟨b,σ2⟩,e2,go⟩ := bS go
 have hsg : (blkCx cx scope cl C R hk hnd).sig = ns' := (blkSig fun x c h1 h2 => Nat.le_trans (Nat.le_of_lt (hlow x c h1 h2)) F.above).trans hs'
 have Rt0 : Rel (blkCx cx scope cl C R hk hnd) ⟨r'.K,r'.m,r'.cs,r'.os,[(I,io),(D,PySem.W.listOf (List.toArray ys) no)]⟩ σ' { s with heap := h,toks := tk } := by
  have P := J.P
  have G : r'.K.h0 = s.heap := P.G
  refine ⟨⟨P.nd,fun p hp q hq => ?_,fun p hp q hq => ?_,P.pl,P.lv,P.G,P.kh,P.E,P.len,P.H,P.cc⟩,by rw [G]; exact F,fun p hp => ?_⟩
  ·rcases mA hq with hq | hq
   ·exact P.dj p hp q (mL _ hq)
   ·have := hne p (J.n1 p (mL _ hp))
    rcases List.mem_cons.mp hq with rfl | hq
    ·exact this.1
    ·obtain rfl := List.mem_singleton.mp hq
     exact this.2
  ·have := hne p (J.n1 p (mR _ hp))
   rcases List.mem_cons.mp hq with rfl | hq
   ·exact this.1
   ·obtain rfl := List.mem_singleton.mp hq
    exact this.2
  ·rw [G]
   refine N p ?_
   rcases mA hp with hp | hp
   ·exact .tail _ (.tail _ (J.n1 p (mL _ hp)))
   ·rcases mA hp with hp | hp
    ·exact .tail _ (.tail _ (J.n1 p (mR _ hp)))
    ·rcases List.mem_cons.mp hp with rfl | hp
     ·exact .head _
     ·obtain rfl := List.mem_singleton.mp hp
      exact .tail _ (.head _)
 have hvb : RV r'.K r'.γ v x := by
  have := RV.block R hv
  refine this.mono (fun _ _ => KL.le J.le) (fun _ _ => KT.le J.le) (fun _ _ => KM.le J.le) fun n a e => ?_
  have : r'.γ = r.γ := by unfold Rt.γ; rw [J.os.1]
  rw [this]; exact e
 -- the end of a turn
 have fin : ∀ (r3 : Rt) (σ3 : St) (s3 : Shared) (ys' : List Value) (ysB : List AV),Go (blkCx cx scope cl C R hk hnd) ⟨r'.K,r'.m,r'.cs,r'.os,[(I,io),(D,PySem.W.listOf (List.toArray ys) no)]⟩ σ' { s with heap := h,toks := tk } r3 σ3 s3 → Rel (blkCx cx scope cl C R hk hnd) r3 σ3 s3 → RVs r3.K r3.γ ys' ysB → ysB.length ≤ i + 1 →
   compS ta fi fe ysB (xs.drop (i + 1)) σ3 = some (res,σe) → CEnd s.heap C I io D no ys (JJ (i + 1) ys') { s with heap := h,toks := tk } s3 := by
  intro r3 σ3 s3 ys' ysB g3 R3 hvs hlen hgo
  have hS : s3 = { ({ s with heap := h,toks := tk } : Shared) with heap := s3.heap,toks := s3.toks } := g3.S
  have hit : r3.it = [(I,io),(D,PySem.W.listOf (List.toArray ys) no)] := g3.it
  have G : r3.K.h0 = s.heap := R3.G
  have P := R3.toRelP
  have N3 := R3.N
  rw [blk_mu,hit,G] at N3
  rw [hS]
  refine cend_intro (m' := r3.m) (news' := r3.cs ++ r3.K.fz) (by have := R3.F; rw [G] at this; exact this) (fun p hp => N3 p ?_) (fun p hp => ?_) ⟨{ r3 with it := [] },σ3,ysB,rfl,⟨⟨P.nd,?_,fun p hp q hq => (nomatch hq),P.pl,P.lv,P.G,P.kh,P.E,P.len,P.H,P.cc⟩,rfl,fun p hp => hp,fun p hp => hp,hvs,J.le.trans g3.K,?_,⟨hlen,hi⟩,hgo⟩⟩
  ·rcases List.mem_cons.mp hp with rfl | hp
   ·exact mR _ (mR _ (.head _))
   ·rcases List.mem_cons.mp hp with rfl | hp
    ·exact mR _ (mR _ (.tail _ (.head _)))
    ·rcases mA hp with hp | hp
     ·exact mL _ hp
     ·exact mR _ (mL _ hp)
  ·have hI : (I,io) ∈ r3.it := by rw [hit]; exact .head _
   have hD : (D,PySem.W.listOf (List.toArray ys) no) ∈ r3.it := by rw [hit]; exact .tail _ (.head _)
   rcases mA hp with hp | hp
   ·exact ⟨P.dj p hp _ (mR _ hI),P.dj p hp _ (mR _ hD)⟩
   ·exact ⟨P.di p hp _ hI,P.di p hp _ hD⟩
  ·intro p hp q hq
   rw [List.append_nil] at hq
   exact P.dj p hp q (mL _ hq)
  ·obtain ⟨a,b⟩ := g3.os rfl
   exact ⟨a.trans J.os.1,b.trans J.os.2⟩
 have hvs0 := J.vs
 refine hta.run _ hsg _ _ _ e1 _ _ v Rt0 hvb _ _ fun r1 s1 g1 R1 => ?_
 refine hfi.run _ hsg _ _ _ e2 _ _ R1 _ _ fun r2 s2 g2 R2 => ?_
 cases b with
 | false =>
  rw [if_neg (by decide)]
  exact fin r2 σ2 s2 ys ysA (g1.trans g2) R2 (RVs.later (r := ⟨r'.K,r'.m,r'.cs,r'.os,[(I,io),(D,PySem.W.listOf (List.toArray ys) no)]⟩) hvs0 (g1.trans g2).toLater) (Nat.le_succ_of_le J.ln.1) go
 | true =>
  rw [if_pos rfl]
  obtain ⟨⟨y,σ3⟩,e3,go⟩ := bS go
  refine hfe.run _ hsg _ _ _ e3 _ _ R2 _ _ fun r3 s3 cv g3 R3 rv => ?_
  exact fin r3 σ3 s3 _ _ ((g1.trans g2).trans g3) R3 ((RVs.later (r := ⟨r'.K,r'.m,r'.cs,r'.os,[(I,io),(D,PySem.W.listOf (List.toArray ys) no)]⟩) hvs0 ((g1.trans g2).trans g3).toLater).snoc rv) (by rw [List.length_append]; exact Nat.succ_le_succ J.ln.1) go
end
theorem cellNews_nodup : ∀ (names : List (Str × NameKind)) (n : Nat),((cellNews n names).map (·.1)).Nodup ∧ ∀ p ∈ cellNews n names,@LE.le Nat _ n p.1
 | [],_ => ⟨List.nodup_nil,fun _ h => nomatch h⟩
 | (x,k) :: r,n => by
  unfold cellNews
  split
  ·obtain ⟨h1,h2⟩ := cellNews_nodup r (n + 1)
   refine ⟨?_,fun p hp => ?_⟩
   ·rw [List.map_cons,List.nodup_cons]
    refine ⟨fun hm => ?_,h1⟩
    obtain ⟨p,hp,e⟩ := List.mem_map.mp hm
    have := h2 p hp
    rw [e] at this
    exact absurd this (Nat.not_succ_le_self n)
   ·rcases List.mem_cons.mp hp with rfl | hp
    ·exact Nat.le_refl _
    ·exact Nat.le_of_succ_le (h2 p hp)
  ·exact cellNews_nodup r n
section
variable {ns : Sig} {cx : Cx} {r : Rt} {σ : St} {s : Shared}
theorem Rel.flGet (R : Rel cx r σ s) {p : Addr × Obj} (h : p ∈ r.fl) : s.heap.get? p.1 = some p.2 := by
 obtain ⟨q,hq,hp⟩ := List.mem_flatMap.mp h
 obtain ⟨i,hi⟩ := List.mem_iff_getElem?.mp hq
 obtain ⟨a,es⟩ := q
 exact R.get hi hp
theorem blk_free (R : Rel cx r σ s) {scope : Scope} {cm : List (Option Nat)} (hcm : cmOk cx.names scope.names cm = true) {j k : Nat} {av : AV} (h1 : cm[j]? = some (some k)) (h2 : getE k σ = some av) :
  ∃ x v c o,scope.names[j]? = some (x,.free) ∧ cx.names.lookup x = some .cell ∧ cx.env.cells.lookup x = some c ∧ s.heap.get? c = some o ∧ o.data = .cell (some v) ∧ RV r.K r.γ v av := by
 obtain ⟨x,kd,v,h3,h4,h5,h6⟩ := R.E k av (getE_some h2)
 have hlen : cm.length = scope.names.length := by
  unfold cmOk at hcm
  rw [Bool.and_eq_true] at hcm
  simpa using hcm.1
 have hj : j < scope.names.length := by rw [← hlen]; exact (List.getElem?_eq_some_iff.mp h1).1
 have hnj : scope.names[j]? = some scope.names[j] := List.getElem?_eq_getElem hj
 obtain ⟨⟨y,kd'⟩,hy⟩ : ∃ q,scope.names[j] = q := ⟨_,rfl⟩
 rw [hy] at hnj
 obtain ⟨a,b⟩ := cmOk_at hcm hnj
 have := b k h1
 subst this
 obtain ⟨k',e1,e2,e3⟩ := a rfl
 rw [h1] at e1
 cases e1
 rw [h3] at e2
 cases e2
 rcases h5 with ⟨h,_⟩ | ⟨_,c,o,hc,hco,ho⟩
 ·cases h
 ·refine ⟨x,v,c,o,hnj,e3,hc,?_,ho,h6⟩
  rcases hco with hco | hco
  ·exact (R.N _ (mL _ (cs_mu hco))).1
  ·exact R.F.keep _ _ hco
theorem blk_clos (R : Rel cx r σ s) {scope : Scope} {cm : List (Option Nat)} (hcm : cmOk cx.names scope.names cm = true) (hin : blkIn cm σ = true) : ∀ x,(x,NameKind.free) ∈ scope.names → ∃ c,cx.env.cells.lookup x = some c := by
 intro x hx
 obtain ⟨j,hj⟩ := List.mem_iff_getElem?.mp hx
 obtain ⟨k,e1,_⟩ := (cmOk_at hcm hj).1 rfl
 have := List.all_eq_true.mp hin _ (List.mem_of_getElem? e1)
 obtain ⟨av,hav⟩ := Option.isSome_iff_exists.mp this
 obtain ⟨x',v,c,o,h1,_,h2,_⟩ := blk_free R hcm e1 hav
 rw [hj] at h1
 cases h1
 exact ⟨c,h2⟩
theorem blk_low {r1 : Rt} {σ1 : St} {s1 : Shared} (R : Rel cx r σ s) (g : Go cx r σ s r1 σ1 s1) (R1 : Rel cx r1 σ1 s1) {scope : Scope} {cl : List (Str × Addr)} {cm : List (Option Nat)} (hcm : cmOk cx.names scope.names cm = true) (hin : blkIn cm σ = true) (hcl : ∀ x,(x,NameKind.free) ∈ scope.names → cl.lookup x = cx.env.cells.lookup x) :
  ∀ x c,(x,NameKind.free) ∈ scope.names → cl.lookup x = some c → @LT.lt Nat _ c s1.heap.objs.size := by
 intro x c hx hc
 obtain ⟨j,hj⟩ := List.mem_iff_getElem?.mp hx
 obtain ⟨k,e1,e2,_⟩ := (cmOk_at hcm hj).1 rfl
 have := List.all_eq_true.mp hin _ (List.mem_of_getElem? e1)
 obtain ⟨av,hav⟩ := Option.isSome_iff_exists.mp this
 obtain ⟨x',kd,v,h3,_,h5,_⟩ := R.E k av (getE_some hav)
 rw [h3] at e2
 cases e2
 rw [hcl x hx] at hc
 rcases h5 with ⟨h,_⟩ | ⟨_,c',o,hc',hco,ho⟩
 ·cases h
 ·rw [hc'] at hc
  obtain rfl := Option.some.inj hc
  rcases hco with hco | hco
  ·have : c' ∈ r1.cs.map (·.1) := by rw [g.cs]; exact List.mem_map_of_mem hco
   obtain ⟨p,hp,rfl⟩ := List.mem_map.mp this
   exact Heap.lt_size (R1.N p (mL _ (cs_mu hp))).1
  ·obtain ⟨sl,h⟩ := g.K.tl _ _ hco
   exact Heap.lt_size (R1.F.keep _ _ h)
theorem cellNews_own : ∀ {names : List (Str × NameKind)} {n : Nat} {q : Str × Addr},q ∈ ownOf n names → (q.2,cellNone) ∈ cellNews n names
 | (x,k) :: r,n,q,h => by
  unfold ownOf at h
  unfold cellNews
  split at h
  ·rename_i hk
   rw [if_pos hk]
   rcases List.mem_cons.mp h with rfl | h
   ·exact .head _
   ·exact .tail _ (cellNews_own h)
  ·rename_i hk
   rw [if_neg hk]
   exact cellNews_own h
theorem blk_start (R : Rel cx r σ s) {scope : Scope} {cl : List (Str × Addr)} (hk : scope.kind = .function) (hnd : ((relN cx.names scope.names).map (·.1)).Nodup) {ta : AV → St → Option St} {fi : St → Option (Bool × St)} {fe : St → Option (AV × St)} {xs res : List AV} {σe : St} {C : Addr} {cm : List (Option Nat)}
  (hcm : cmOk cx.names scope.names cm = true) (hcl : ∀ x,(x,NameKind.free) ∈ scope.names → cl.lookup x = cx.env.cells.lookup x) (go : compS ta fi fe [] xs ⟨blkE cm σ,σ.heap⟩ = some (res,σe)) :
  CJ R scope cl hk hnd ta fi fe xs res σe C 0 [] ⟨blkK r s.heap,fun _ => none,cellNews (C + 1) scope.names,r.os,[]⟩ ⟨blkE cm σ,σ.heap⟩ [] (cellNews (C + 1) scope.names) := by
 have hγ : Rt.γ ⟨blkK r s.heap,fun _ => none,cellNews (C + 1) scope.names,r.os,[]⟩ = r.γ := rfl
 refine ⟨⟨(cellNews_nodup _ _).1,fun p hp q hq => (nomatch hq),fun p hp q hq => (nomatch hp),fun p hp => (nomatch hp),fun _ p hp => R.flGet hp,rfl,fun a ha => ?_,fun j av e => ?_,R.len,fun i ao n e => ?_,fun q hq => ?_⟩,rfl,fun p hp => ?_,fun p hp => mL _ hp,⟨rfl,fun i v x h => by simp at h⟩,.refl,⟨rfl,rfl⟩,⟨Nat.le_refl _,Nat.zero_le _⟩,go⟩
 ·rcases ha with ha | ⟨o,ha⟩
  ·obtain ⟨o,ho⟩ := R.kh a ha
   exact ⟨o,R.F.keep _ _ ho⟩
  ·exact ⟨o,(R.N _ (mR _ (mL _ ha))).1⟩
 ·have e : (cm.map fun o => o.bind fun k => getE k σ)[j]? = some (some av) := e
  rw [List.getElem?_map] at e
  cases hc : cm[j]? with
  | none => rw [hc] at e; cases e
  | some o =>
   rw [hc] at e
   cases o with
   | none => cases e
   | some k =>
    have hg : getE k σ = some av := Option.some.inj e
    obtain ⟨x,v,c,ob,h1,h2,h3,h4,h5,h6⟩ := blk_free R hcm hc hg
    have hm : (relN cx.names scope.names)[j]? = some (x,.cell) := by
     unfold relN
     rw [List.getElem?_map,h1]
     show some (if _ then (x,NameKind.cell) else (x,NameKind.free)) = _
     rw [h2]; rfl
    have hnm : Cx.names (blkCx cx scope cl C R hk hnd) = relN cx.names scope.names := relabel_names cx.hf
    refine ⟨x,.cell,v,by rw [hnm]; exact hm,by rw [hnm]; exact lookup_mem hnd (List.mem_of_getElem? hm),.inr ⟨rfl,c,ob,?_,.inr h4,h5⟩,RV.block R h6⟩
    show (cellsFrom (C + 1) scope.names cl).lookup x = some c
    rw [cellsFrom_lookup,hcl x (List.mem_of_getElem? h1)]
    ·exact h3
    ·intro y hy e hc2
     rw [relN_fst] at hnd
     have l1 : scope.names.lookup x = some .free := lookup_mem hnd (List.mem_of_getElem? h1)
     have l2 : scope.names.lookup x = some .cell := lookup_mem hnd (by rw [← e,← hc2]; exact hy)
     rw [l1] at l2
     cases l2
 ·obtain ⟨a,es,h1,h2⟩ := R.H i ao n e
  exact ⟨a,es,h1,h2.mono (fun v x h => RV.block R h) fun _ _ h => h⟩
 ·have hq : q ∈ blkOwn scope cl C := hq
  unfold blkOwn at hq
  split at hq
  ·exact ⟨_,_,cellNews_own hq,rfl⟩
  ·cases hq
 ·rcases mA hp with h | h
  ·exact h
  ·cases h
section
variable {scope : Scope} {cl : List (Str × Addr)} {hk : scope.kind = .function} {hnd : ((relN cx.names scope.names).map (·.1)).Nodup} {ta : AV → St → Option St} {fi : St → Option (Bool × St)} {fe : St → Option (AV × St)} {xs res : List AV} {σe : St} {C D : Addr} {ys : List Value} {r' : Rt} {σ' : St} {ysA : List AV} {news : Led} {h' : Heap} {tk no : Nat}
theorem cj_end {R : Rel cx r σ s} (J : CJ R scope cl hk hnd ta fi fe xs res σe C xs.length ys r' σ' ysA news) : ysA = res := by
 have := J.go
 rw [List.drop_length] at this
 cases this
 rfl
theorem cj_vals {R : Rel cx r σ s} (J : CJ R scope cl hk hnd ta fi fe xs res σe C xs.length ys r' σ' ysA news) {K2 : Kno} (h2 : K2.h0 = r.K.h0) (k2 : K2.kn = r.K.kn) (hfz : ∀ p ∈ r.K.fz,p ∈ K2.fz) (hfz1 : ∀ p ∈ r'.K.fz,p ∈ K2.fz) : RVs K2 r.γ ys res := by
 have e := cj_end J
 subst e
 have hγ : r'.γ = r.γ := by unfold Rt.γ; rw [J.os.1]
 rw [← hγ]
 exact ⟨J.vs.1,fun i v x a b => RV.unblock R J.le.kn J.P.G h2 k2 hfz hfz1 (J.vs.2 i v x a b)⟩
theorem blk_done2 (R : Rel cx r σ s) (hm : cx.tm = true) (J : CJ R scope cl hk hnd ta fi fe xs res σe C xs.length ys r' σ' ysA news) (st : s.heap.StaysIn h') (hp : ∀ p ∈ (D,PySem.W.listOf (List.toArray ys) no) :: news,h'.get? p.1 = some p.2 ∧ s.heap.get? p.1 = none) (hD : ∀ p ∈ news,p.1 ≠ D) :
  ∃ r2,Go cx r σ s r2 ⟨σ.env,σ.heap ++ [(.list res,0)]⟩ { s with heap := h',toks := tk } ∧ Rel cx r2 ⟨σ.env,σ.heap ++ [(.list res,0)]⟩ { s with heap := h',toks := tk } ∧ RV r2.K r2.γ (.ref D) (.ref σ.heap.length) ∧ r2.K.h0 = r.K.h0 ∧ ∀ p ∈ r2.mu cx ++ (r2.K.fz ++ r2.it),p ∈ r.mu cx ++ (r.K.fz ++ r.it) ∨ p ∈ (D,PySem.W.listOf (List.toArray ys) no) :: news := by
 obtain ⟨R1,g1⟩ := R.fzs (tk := tk) st (fun p h => hp p (.tail _ (J.n1 p (mR _ h)))) J.P.pl
 have hd := hp _ (.head _)
 have old : ∀ p ∈ r.mu cx ++ (r.K.fz ++ r.it),p.1 ≠ D := fun p h e => by
  have := (R.N p h).1
  rw [e,hd.2] at this
  cases this
 have hLD : D ≠ cx.L := fun e => by
  obtain ⟨o,_,_,ho,_⟩ := R.F.ns
  rw [← e,hd.2] at ho
  cases ho
 have h0D : r.K.h0.get? D = none := by
  cases z : r.K.h0.get? D with
  | none => rfl
  | some o => have := R.F.keep _ _ z; rw [hd.2] at this; cases this
 have mem : ∀ p ∈ Rt.mu { r with K := { r.K with fz := r.K.fz ++ r'.K.fz } } cx ++ ((r.K.fz ++ r'.K.fz) ++ r.it),p.1 ≠ D := fun p h => by
  rcases mA h with h | h
  ·exact old p (mL _ h)
  ·rcases mA h with h | h
   ·rcases mA h with h | h
    ·exact old p (mR _ (mL _ h))
    ·exact hD p (J.n1 p (mR _ h))
   ·exact old p (mR _ (mR _ h))
 obtain ⟨R2,g2⟩ := R1.osn (tk := tk) (a := D) hm (es := [(D,PySem.W.listOf (List.toArray ys) no)]) R1.F (fun p h => by
  rcases List.mem_cons.mp h with rfl | h
  ·exact ⟨hd.1,hLD,h0D⟩
  ·exact R1.N p h) (fun p h q hq => by
  obtain rfl := List.mem_singleton.mp hq
  exact mem p h) (by simp) (ao := .list res) (.list _ ys res no (by
  have := cj_vals J (K2 := { r.K with fz := r.K.fz ++ r'.K.fz }) rfl rfl (fun p h => mL _ h) (fun p h => mR _ h)
  exact ⟨this.1,fun i v x a b => (this.2 i v x a b).mono (fun _ _ h => h) (fun _ _ h => h) (fun _ _ h => h) fun n a e => pre_get e⟩))
 refine ⟨_,g1.trans g2,R2,.ref _ _ ?_,rfl,fun p hp => ?_⟩
 rotate_left
 ·rcases mA hp with hp | hp
  ·rw [mu_mut hm] at hp
   have hp' : p ∈ r.cs ++ (r.os ++ [(D,[(D,PySem.W.listOf (List.toArray ys) no)])]).flatMap (·.2) := hp
   rw [List.flatMap_append] at hp'
   rcases mA hp' with hp | hp
   ·exact .inl (mL _ (cs_mu hp))
   ·rcases mA hp with hp | hp
    ·exact .inl (mL _ (by rw [mu_mut hm]; exact mR _ hp))
    ·simp at hp
     subst hp
     exact .inr (.head _)
  ·have hp' : p ∈ (r.K.fz ++ r'.K.fz) ++ r.it := hp
   rcases mA hp' with hp | hp
   ·rcases mA hp with hp | hp
    ·exact .inl (mR _ (mL _ hp))
    ·exact .inr (.tail _ (J.n1 p (mR _ hp)))
   ·exact .inl (mR _ (mR _ hp))
 have gl : r.γ.length = σ.heap.length := by rw [R.len]; exact List.length_map ..
 show ((r.os ++ [(D,[(D,PySem.W.listOf (List.toArray ys) no)])]).map (·.1))[σ.heap.length]? = some D
 rw [List.map_append]
 have : (r.os.map (·.1)).length = σ.heap.length := gl
 rw [← this]
 simp
theorem blk_done (R : Rel cx r σ s) (hm : cx.tm = true) (J : CJ R scope cl hk hnd ta fi fe xs res σe C xs.length ys r' σ' ysA news) (st : s.heap.StaysIn h') (hp : ∀ p ∈ (D,PySem.W.listOf (List.toArray ys) no) :: news,h'.get? p.1 = some p.2 ∧ s.heap.get? p.1 = none) (hD : ∀ p ∈ news,p.1 ≠ D) :
  ∃ r2,Go cx r σ s r2 ⟨σ.env,σ.heap ++ [(.list res,0)]⟩ { s with heap := h',toks := tk } ∧ Rel cx r2 ⟨σ.env,σ.heap ++ [(.list res,0)]⟩ { s with heap := h',toks := tk } ∧ RV r2.K r2.γ (.ref D) (.ref σ.heap.length) := by
 obtain ⟨r2,a,b,c,_⟩ := blk_done2 (tk := tk) R hm J st hp hD
 exact ⟨r2,a,b,c⟩
theorem blk_doneF (R : Rel cx r σ s) (J : CJ R scope cl hk hnd ta fi fe xs res σe C xs.length ys r' σ' ysA news) (st : s.heap.StaysIn h') (hp : ∀ p ∈ (D,PySem.W.listOf (List.toArray ys) no) :: news,h'.get? p.1 = some p.2 ∧ s.heap.get? p.1 = none) :
  ∃ r2,Go cx r σ s r2 σ { s with heap := h',toks := tk } ∧ Rel cx r2 σ { s with heap := h',toks := tk } ∧ RV r2.K r2.γ (.ref D) (.fl res) := by
 obtain ⟨R1,g1⟩ := R.fzs (tk := tk) (fz' := (D,PySem.W.listOf (List.toArray ys) no) :: r'.K.fz) st (fun p h => by
  rcases List.mem_cons.mp h with rfl | h
  ·exact hp _ (.head _)
  ·exact hp p (.tail _ (J.n1 p (mR _ h)))) (fun p h => by
  rcases List.mem_cons.mp h with rfl | h
  ·exact ⟨rfl,rfl⟩
  ·exact J.P.pl p h)
 have hv := cj_vals J (K2 := { r.K with fz := r.K.fz ++ (D,PySem.W.listOf (List.toArray ys) no) :: r'.K.fz }) rfl rfl (fun p h => mL _ h) (fun p h => mR _ (.tail _ h))
 exact ⟨_,g1,R1,.fl D ys res (.inr ⟨no,mR _ (.head _)⟩) hv.1 hv.2⟩
end
end
noncomputable def Rule (cx : Cx) (r : Rt) (s : Shared) (xs : List AV) (iter : PySem.Expr) (xv : Value) : Prop :=
 ∀ (elt target : PySem.Expr) (ifs : List PySem.Expr) (scope : Scope) (pos : Pos) (cl : List (Str × Addr)) (use : Option (Value → Sem Unit)) (Q : Value → Shared → Prop) (J : Addr → Nat → List Value → (Str → Option Value) → Led → Prop),scope.kind = .function →
  (∀ C,J C 0 [] (fun _ => none) (cellNews (C + 1) scope.names)) → (∀ C i ys m₁ news₁,J C i ys m₁ news₁ → ys.length ≤ 1000) →
  (∀ C D I (i : Nat) v x ys m₁ news₁ io h tk no,xs[i]? = some x → RV r.K r.γ v x → J C i ys m₁ news₁ → (∀ p ∈ news₁,p.1 ≠ I ∧ p.1 ≠ D) → Fr s.heap C h m₁ → News s.heap C h ((I,io) :: (D,PySem.W.listOf (List.toArray ys) no) :: news₁) →
   wpAny (model prg cx.w) cx.A (assign target (compEnvC scope (cellsFrom (C + 1) scope.names cl) C cx.env) v) (fun _ s₂ =>
    wpAny (model prg cx.w) cx.A (forIn ifs true fun c r => if r = true then do let ok ← isTrue c (compEnvC scope (cellsFrom (C + 1) scope.names cl) C cx.env) (eval c (compEnvC scope (cellsFrom (C + 1) scope.names cl) C cx.env)); pure (ForInStep.yield ok) else pure (ForInStep.yield r)) (fun ok s₃ =>
     if ok = true then wpAny (model prg cx.w) cx.A (eval elt (compEnvC scope (cellsFrom (C + 1) scope.names cl) C cx.env)) (fun y s₄ => CEnd s.heap C I io D no ys (J C (i + 1) (ys ++ [y])) { s with heap := h,toks := tk } s₄) (fun _ _ => False) s₃
     else CEnd s.heap C I io D no ys (J C (i + 1) ys) { s with heap := h,toks := tk } s₃) (fun _ _ => False) s₂) (fun _ _ => False) { s with heap := h,toks := tk }) →
  (∀ C D ys m₁ news₁ h tk no,J C xs.length ys m₁ news₁ → (∀ p ∈ news₁,p.1 ≠ D) → Fr s.heap C h m₁ → News s.heap C h ((D,PySem.W.listOf (List.toArray ys) no) :: news₁) → compPost (model prg cx.w) cx.A (fun _ _ => False) use Q (.ref D) C (.ok .next) { s with heap := h,toks := tk }) →
  (∀ I v,letOwnedTupleGo target (.ref I) v = pure ()) → CompAt prg cx.w cx.A elt target iter ifs scope pos cl cx.env use Q xv s
structure Src (ns : Sig) (iter : PySem.Expr) (fs : St → Option (List AV × St)) : Prop where
 run : ∀ cx : Cx,cx.sig = ns → ∀ σ xs σ',fs σ = some (xs,σ') → ∀ r s,Rel cx r σ s → ∀ (Q : Value → Shared → Prop) (E : Value → Shared → Prop),
  (∀ r' s' xv,Go cx r σ s r' σ' s' → Rel cx r' σ' s' → Rule cx r' s' xs iter xv → Q xv s') → wpAny (model prg cx.w) cx.A (eval iter cx.env) Q E s
noncomputable def fComp (cm : List (Option Nat)) (fs : St → Option (List AV × St)) (ta : AV → St → Option St) (fi : St → Option (Bool × St)) (fe : St → Option (AV × St)) (σ : St) : Option (List AV × St) :=
 if blkIn cm σ then fs σ >>= fun p => if p.1.length ≤ 1000 then compS ta fi fe [] p.1 ⟨blkE cm p.2,p.2.heap⟩ >>= fun q => some (q.1,p.2) else none else none
section
variable {ns : Sig} {cx : Cx} {r : Rt} {σ : St} {s : Shared}
theorem comp_core {elt target iter : PySem.Expr} {ifs : List PySem.Expr} {scope : Scope} {pos : Pos} {cm : List (Option Nat)} {fs : St → Option (List AV × St)} {ta : AV → St → Option St} {fi : St → Option (Bool × St)} {fe : St → Option (AV × St)} {ns' : Sig}
  (src : Src ns iter fs) (hk : scope.kind = .function) (hnd0 : (scope.names.map (·.1)).Nodup) (hcm : cmOk ns.names scope.names cm = true) (hs' : (⟨relN ns.names scope.names,false,ns.hand,false,ns.lim,ownN scope.names,ns.cd⟩ : Sig) = ns')
  (hta : AS ns' target ta) (hfi : SI ns' ifs fi) (hfe : SE ns' elt fe) (ht : ∀ I v,letOwnedTupleGo target (.ref I) v = pure ())
  (hn : cx.sig = ns) {res : List AV} {σ1 : St} (hf : fComp cm fs ta fi fe σ = some (res,σ1)) (R : Rel cx r σ s) {use : Option (Value → Sem Unit)} {Q : Value → Shared → Prop}
  (fin : ∀ r1 s1 D ys h tk no (R1 : Rel cx r1 σ1 s1) (cl : List (Str × Addr)) (hnd : ((relN cx.names scope.names).map (·.1)).Nodup) (xs : List AV) (σe : St) (C : Addr) (r' : Rt) (σ' : St) (ysA : List AV) (news : Led),Go cx r σ s r1 σ1 s1 → CJ R1 scope cl hk hnd ta fi fe xs res σe C xs.length ys r' σ' ysA news →
   (∀ p ∈ news,p.1 ≠ D) → Fr s1.heap C h r'.m → News s1.heap C h ((D,PySem.W.listOf (List.toArray ys) no) :: news) → compPost (model prg cx.w) cx.A (fun _ _ => False) use Q (.ref D) C (.ok .next) { s1 with heap := h,toks := tk }) :
  ∃ cl,closureFor scope cx.env = pure cl ∧ wpAny (model prg cx.w) cx.A (eval iter cx.env) (fun xv s₁ => CompAt prg cx.w cx.A elt target iter ifs scope pos cl cx.env use Q xv s₁) (fun _ _ => False) s := by
 subst hn
 have hnd : ((relN cx.names scope.names).map (·.1)).Nodup := by rw [relN_fst]; exact hnd0
 refine ifM hf fun hin hf => ?_
 obtain ⟨⟨xs,σ2⟩,e1,e2⟩ := bS hf
 refine ifM e2 fun hlen e2 => ?_
 obtain ⟨⟨ys',σe⟩,e3,e4⟩ := bS e2
 cases e4
 obtain ⟨cl,hcl,hcl2⟩ := closure_ok (blk_clos R hcm hin)
 refine ⟨cl,hcl,?_⟩
 refine src.run cx rfl _ _ _ e1 r s R _ _ fun r1 s1 xv g1 R1 rule => ?_
 refine rule elt target ifs scope pos cl use Q (fun C i ys m news => ∃ r' σ' ysA,r'.m = m ∧ CJ R1 scope cl hk hnd ta fi fe xs ys' σe C i ys r' σ' ysA news) hk (fun C => ⟨_,_,_,rfl,blk_start R1 hk hnd hcm hcl2 e3⟩) ?_ ?_ ?_ ht
 ·rintro C i ys m news ⟨r',σ',ysA,rfl,J⟩
  rw [J.vs.1]
  exact Nat.le_trans (Nat.le_trans J.ln.1 J.ln.2) hlen
 ·rintro C D I i v x ys m news io h tk no hx hv ⟨r',σ',ysA,rfl,J⟩ hne F N
  exact comp_turn R1 hk hnd hs' (blk_low R g1 R1 hcm hin hcl2) hta hfi hfe hx hv J hne F N
 ·rintro C D ys m news h tk no ⟨r',σ',ysA,rfl,J⟩ hD F N
  exact fin r1 s1 D ys h tk no R1 cl hnd xs σe C r' σ' ysA news g1 J hD F N
theorem names_fun {names : List (Str × NameKind)} (h : (names.map (·.1)).Nodup) : ∀ y ∈ names,y.2 = .local → names.lookup y.1 = some .local := fun y hy e => lookup_mem h (by rw [← e]; exact hy)
theorem fr_none {h₀ h : Heap} {L : Addr} {m : Str → Option Value} (F : Fr h₀ L h m) : h₀.get? L = none := by
 cases q : h₀.get? L with
 | none => rfl
 | some o => exact absurd (Nat.lt_of_lt_of_le (Heap.lt_size q) F.above) (Nat.lt_irrefl _)
theorem comp_both {elt target iter : PySem.Expr} {ifs : List PySem.Expr} {scope : Scope} {pos : Pos} {cm : List (Option Nat)} {fs : St → Option (List AV × St)} {ta : AV → St → Option St} {fi : St → Option (Bool × St)} {fe : St → Option (AV × St)} {ns' : Sig}
  (src : Src ns iter fs) (hk : scope.kind = .function) (hnd0 : (scope.names.map (·.1)).Nodup) (hcm : cmOk ns.names scope.names cm = true) (hs' : (⟨relN ns.names scope.names,false,ns.hand,false,ns.lim,ownN scope.names,ns.cd⟩ : Sig) = ns')
  (hta : AS ns' target ta) (hfi : SI ns' ifs fi) (hfe : SE ns' elt fe) (ht : ∀ I v,letOwnedTupleGo target (.ref I) v = pure ()) (hs : ∀ env x,foldedSetIterable iter env x = pure x)
  (hn : cx.sig = ns) {res : List AV} {σ1 : St} (hf : fComp cm fs ta fi fe σ = some (res,σ1)) (R : Rel cx r σ s) {Q : Value → Shared → Prop} {E : Value → Shared → Prop}
  (hq : ∀ r1 s1 D ys h' tk no (R1 : Rel cx r1 σ1 s1) (cl : List (Str × Addr)) (hnd : ((relN cx.names scope.names).map (·.1)).Nodup) (xs : List AV) (σe : St) (C : Addr) (r' : Rt) (σ' : St) (ysA : List AV) (news : Led),Go cx r σ s r1 σ1 s1 → CJ R1 scope cl hk hnd ta fi fe xs res σe C xs.length ys r' σ' ysA news → s1.heap.StaysIn h' →
   (∀ p ∈ (D,PySem.W.listOf (List.toArray ys) no) :: news,h'.get? p.1 = some p.2 ∧ s1.heap.get? p.1 = none) → (∀ p ∈ news,p.1 ≠ D) → Q (.ref D) { s1 with heap := h',toks := tk }) :
  wpAny (model prg cx.w) cx.A (eval (.ListComp elt [⟨target,iter,ifs,0⟩] scope pos) cx.env) Q E s := by
 obtain ⟨cl,hcl,h⟩ := comp_core (use := none) (Q := Q) (pos := pos) src hk hnd0 hcm hs' hta hfi hfe ht hn hf R fun r1 s1 D ys h tk no R1 cl hnd xs σe C r' σ' ysA news g1 J hD F N => ⟨_,F.ns,fun h' hs' => hq r1 s1 D ys h' tk no R1 cl hnd xs σe C r' σ' ysA news g1 J (fun b o e => (hs'.2 b fun q => by rw [q,fr_none F] at e; cases e).trans (F.keep b o e)) (fun p hp => ⟨(hs'.2 _ (N p hp).2.1).trans (N p hp).1,(N p hp).2.2⟩) hD⟩
 exact wpAny_mono (comp_stop hcl hk (names_fun hnd0) h (hs _)) (fun _ _ h => h) fun _ _ h => h.elim
theorem se_comp {elt target iter : PySem.Expr} {ifs : List PySem.Expr} {scope : Scope} {pos : Pos} {cm : List (Option Nat)} {fs : St → Option (List AV × St)} {ta : AV → St → Option St} {fi : St → Option (Bool × St)} {fe : St → Option (AV × St)} {ns' : Sig}
  (src : Src ns iter fs) (hk : scope.kind = .function) (hnd0 : (scope.names.map (·.1)).Nodup) (hcm : cmOk ns.names scope.names cm = true) (hs' : (⟨relN ns.names scope.names,false,ns.hand,false,ns.lim,ownN scope.names,ns.cd⟩ : Sig) = ns')
  (hta : AS ns' target ta) (hfi : SI ns' ifs fi) (hfe : SE ns' elt fe) (ht : ∀ I v,letOwnedTupleGo target (.ref I) v = pure ()) (hs : ∀ env x,foldedSetIterable iter env x = pure x) (tm : ns.tm = true) :
  SE ns (.ListComp elt [⟨target,iter,ifs,0⟩] scope pos) (fun σ => fComp cm fs ta fi fe σ >>= fun q => some (.ref q.2.heap.length,⟨q.2.env,q.2.heap ++ [(.list q.1,0)]⟩)) := by
 refine ⟨?_⟩
 intro cx hn σ v σ' hf r s R Q E hq
 obtain ⟨⟨res,σ1⟩,e1,e2⟩ := bS hf
 replace hq := hq.eq e2
 refine comp_both src hk hnd0 hcm hs' hta hfi hfe ht hs hn e1 R fun r1 s1 D ys h' tk no R1 cl hnd xs σe C r' σ' ysA news g1 J st hp hD => ?_
 obtain ⟨r2,g2,R2,rv⟩ := blk_done (tk := tk) R1 (tmOf hn tm) J st hp hD
 exact hq r2 _ _ (g1.trans g2) R2 rv
theorem se_compF {elt target iter : PySem.Expr} {ifs : List PySem.Expr} {scope : Scope} {pos : Pos} {cm : List (Option Nat)} {fs : St → Option (List AV × St)} {ta : AV → St → Option St} {fi : St → Option (Bool × St)} {fe : St → Option (AV × St)} {ns' : Sig}
  (src : Src ns iter fs) (hk : scope.kind = .function) (hnd0 : (scope.names.map (·.1)).Nodup) (hcm : cmOk ns.names scope.names cm = true) (hs' : (⟨relN ns.names scope.names,false,ns.hand,false,ns.lim,ownN scope.names,ns.cd⟩ : Sig) = ns')
  (hta : AS ns' target ta) (hfi : SI ns' ifs fi) (hfe : SE ns' elt fe) (ht : ∀ I v,letOwnedTupleGo target (.ref I) v = pure ()) (hs : ∀ env x,foldedSetIterable iter env x = pure x) :
  SE ns (.ListComp elt [⟨target,iter,ifs,0⟩] scope pos) (fun σ => fComp cm fs ta fi fe σ >>= fun q => some (.fl q.1,q.2)) := by
 refine ⟨?_⟩
 intro cx hn σ v σ' hf r s R Q E hq
 obtain ⟨⟨res,σ1⟩,e1,e2⟩ := bS hf
 replace hq := hq.eq e2
 refine comp_both src hk hnd0 hcm hs' hta hfi hfe ht hs hn e1 R fun r1 s1 D ys h' tk no R1 cl hnd xs σe C r' σ' ysA news g1 J st hp hD => ?_
 obtain ⟨r2,g2,R2,rv⟩ := blk_doneF (tk := tk) R1 J st hp
 exact hq r2 _ _ (g1.trans g2) R2 rv
theorem swaps_eq {elt : PySem.Expr} {gens : List Comprehension} {scope : Scope} {pos p : Pos} {x : Str} {line : Nat} {env : Env} : swapsWith (.ListComp elt gens scope pos) (some (.Name x p)) line env = pure (env.blockKind == .function && env.kindOf x == some .local && p.line == pos.line && !(scope.names.any fun (n,k) => n == x && (k == .local || k == .cell))) := rfl
theorem src_val {iter : PySem.Expr} {fo : St → Option (AV × St)} (h : SE ns iter fo) (hand : ns.hand = true) : Src ns iter (fun σ => fo σ >>= fun p => spreadV p.1 p.2 >>= fun xs => some (xs,p.2)) := by
 refine ⟨?_⟩
 intro cx hn σ xs σ' hf r s R Q E hq
 obtain ⟨⟨v,σ1⟩,e1,e2⟩ := bS hf
 obtain ⟨ys,e3,e4⟩ := bS e2
 cases e4
 refine h.run cx hn _ _ _ e1 r s R _ _ fun r1 s1 cv g1 R1 rv => ?_
 obtain ⟨a,vs,rfl,hl,hz,hvs⟩ := spO R1 rv e3
 refine hq r1 s1 _ g1 R1 fun elt target ifs scope pos cl use Q J hk h0 hys turn done ht => ?_
 refine comp_list J (hhOf hn hand) hl hk h0 hys (fun C D I i v ys m₁ news₁ io h tk no hv => ?_) (fun C D ys m₁ news₁ h tk no hJ hD F N => done C D ys m₁ news₁ h tk no (by rw [← hvs.1]; exact hJ) hD F N) ht
 have hi := (List.getElem?_eq_some_iff.mp hv).1
 have hx : xs[i]? = some (xs[i]'(by rw [← hvs.1]; exact hi)) := List.getElem?_eq_getElem _
 exact turn C D I i v _ ys m₁ news₁ io h tk no hx (hvs.2 i v _ hv hx)
noncomputable def valsV (v : AV) (σ : St) : Option (List AV) := match v with
 | .ref n => (match σ.heap[n]? with | some (.dict kvs,_) => some (kvs.map (·.2)) | _ => none)
 | _ => none
theorem src_values {o : PySem.Expr} {ap pos : Pos} {pl : Env → Sem Bool} {fo : St → Option (AV × St)} (ho : SE ns o fo) (hand : ns.hand = true) (tm : ns.tm = true)
  (hev : ∀ env,eval (.Call (.Attribute o (Str.ofString "values") ap) [] [] pos) env = (do let ov ← eval o env; standAt ap.atName; let (f,first) ← holding [ov] (getMethod ov (Str.ofString "values") (pl env)); callWith pos f first (backTo pos (starEach [] env)) []) := by intro _; with_unfolding_all rfl) :
  Src ns (.Call (.Attribute o (Str.ofString "values") ap) [] [] pos) (fun σ => fo σ >>= fun p => valsV p.1 p.2 >>= fun xs => some (xs,p.2)) := by
 refine ⟨?_⟩
 intro cx hn σ xs σ' hf r s R Q E hq
 obtain ⟨⟨v,σ1⟩,e1,e2⟩ := bS hf
 obtain ⟨ys,e3,e4⟩ := bS e2
 cases e4
 refine MethodCall_ (ho.run cx hn _ _ _ e1 r s R _ _ fun r1 s1 cv g1 R1 rv => ?_) (hev _)
 have e3 : valsV v σ1 = some xs := e3
 refine refM e3 fun n eM e3 => ?_
 subst eM
 refine dictM e3 fun kvs k hh e3 => ?_
 cases e3
 obtain ⟨a,rfl,hγ⟩ := rv.ref_inv
 obtain ⟨es,h5,h6⟩ := R1.idx hγ hh
 obtain ⟨od,kv,rfl,h7,h8,h9,h10⟩ := h6.dict_inv
 have hm := mL (r1.K.fz ++ r1.it) (ento (tmOf hn tm) h5 (.head _))
 refine kdl_method (knd := PySem.intKind prg cx.w) PySem.F.slot_dict_values PySem.F.type_dict_values R1.N hm h7 ?_
 refine callWith_method0 ?_
 refine kdl_view_values (knd := PySem.intKind prg cx.w) R1.F R1.N hm h7 h8 fun D h' F' N' lD => ?_
 obtain ⟨R2,g2⟩ := R1.fzn (tk := s1.toks) F' N' lD
 refine hq _ _ _ (g1.trans g2) R2 fun elt target ifs scope pos cl use Q J hk h0 hys turn done ht => ?_
 have hl : (kv.map (·.2)).length = (kvs.map (·.2)).length := h10.1
 refine comp_values J (hhOf hn hand) (o := od) ⟨_,(N' _ (.head _)).1,rfl,rfl⟩ (N' _ (.tail _ hm)).1 h7 hk h0 hys (fun C D I i k v ys m₁ news₁ io h tk no hv => ?_) (fun C D ys m₁ news₁ h tk no hJ hD F N => done C D ys m₁ news₁ h tk no (by rw [← hl,List.length_map]; exact hJ) hD F N) ht
 have hv' : (kv.map (·.2))[i]? = some v := by rw [List.getElem?_map,hv]; rfl
 have hi := (List.getElem?_eq_some_iff.mp hv').1
 have hx : (kvs.map (·.2))[i]? = some ((kvs.map (·.2))[i]'(by rw [← hl]; exact hi)) := List.getElem?_eq_getElem _
 exact turn C D I i v _ ys m₁ news₁ io h tk no hx ((h10.2 i v _ hv' hx).later g2.toLater)
end
inductive CmIs (out : List (Str × NameKind)) : List (Str × NameKind) → List (Option Nat) → Prop
 | nil : CmIs out [] []
 | free {x : Str} {names : List (Str × NameKind)} {cm : List (Option Nat)} {k : Nat} : out[k]? = some (x,.cell) → out.lookup x = some .cell → CmIs out names cm → CmIs out ((x,.free) :: names) (some k :: cm)
 | local {x : Str} {names : List (Str × NameKind)} {cm : List (Option Nat)} : CmIs out names cm → CmIs out ((x,.local) :: names) (none :: cm)
 | cell {x : Str} {names : List (Str × NameKind)} {cm : List (Option Nat)} : CmIs out names cm → CmIs out ((x,.cell) :: names) (none :: cm)
 | glob {x : Str} {names : List (Str × NameKind)} {cm : List (Option Nat)} : CmIs out names cm → CmIs out ((x,.globalImplicit) :: names) (none :: cm)
theorem CmIs.ok {out names : List (Str × NameKind)} {cm : List (Option Nat)} (h : CmIs out names cm) : cmOk out names cm = true := by
 unfold cmOk
 rw [Bool.and_eq_true]
 induction h with
 | nil => exact ⟨rfl,rfl⟩
 | free h1 h2 _ ih => exact ⟨by simpa using ih.1,by rw [List.zip_cons_cons,List.all_cons,ih.2]; simp [h1,h2]⟩
 | «local» _ ih => exact ⟨by simpa using ih.1,by rw [List.zip_cons_cons,List.all_cons,ih.2]; rfl⟩
 | cell _ ih => exact ⟨by simpa using ih.1,by rw [List.zip_cons_cons,List.all_cons,ih.2]; rfl⟩
 | glob _ ih => exact ⟨by simpa using ih.1,by rw [List.zip_cons_cons,List.all_cons,ih.2]; rfl⟩
noncomputable def allO {α β : Type} (f : α → Option β) : List α → Option (List β)
 | [] => some []
 | x :: xs => f x >>= fun y => allO f xs >>= fun ys => some (y :: ys)
theorem allO_ok {α β : Type} {f : α → Option β} : ∀ {xs : List α} {ys : List β},allO f xs = some ys → xs.length = ys.length ∧ ∀ (i : Nat) (y : β),ys[i]? = some y → ∃ x,xs[i]? = some x ∧ f x = some y
 | [],_,h => by cases h; exact ⟨rfl,fun i y h => by simp at h⟩
 | x :: xs,_,h => by
  obtain ⟨y,h1,h2⟩ := bS h
  obtain ⟨ys,h3,h4⟩ := bS h2
  cases h4
  obtain ⟨a,b⟩ := allO_ok h3
  refine ⟨by rw [List.length_cons,List.length_cons,a],fun i z hz => ?_⟩
  cases i with
  | zero => cases hz; exact ⟨x,rfl,h1⟩
  | succ i => exact b i z (by simpa using hz)
noncomputable def frz (H : List (AO × Nat)) : Nat → AV → Option AV
 | 0,_ => none
 | k + 1,.ref n => (match H[n]? with
  | some (.list xs,_) => (allO (frz H k) xs).map .fl
  | _ => none)
 | k + 1,.fl xs => (allO (frz H k) xs).map .fl
 | k + 1,.tp xs => (allO (frz H k) xs).map .tp
 | _ + 1,.none => some .none
 | _ + 1,.bool b => some (.bool b)
 | _ + 1,.int i => some (.int i)
 | _ + 1,.str x => some (.str x)
 | _ + 1,.flt i => some (.flt i)
 | _ + 1,_ => none
theorem frz_ref {H : List (AO × Nat)} {k n z : Nat} {xs : List AV} (h : H[n]? = some (.list xs,z)) : frz H (k + 1) (.ref n) = (allO (frz H k) xs).map .fl := by
 show (match H[n]? with | some (.list xs,_) => (allO (frz H k) xs).map AV.fl | _ => none) = _
 rw [h]
theorem frz_list {H : List (AO × Nat)} {k : Nat} {K2 : Kno} {γ γ2 : List Addr} {K : Kno} {vs : List Value} {xs ys : List AV} (ih : ∀ v x y,RV K γ v x → frz H k x = some y → RV K2 γ2 v y) (h : RVs K γ vs xs) (e : allO (frz H k) xs = some ys) : RVs K2 γ2 vs ys := by
 obtain ⟨a,b⟩ := allO_ok e
 refine ⟨h.1.trans a,fun i v y hv hy => ?_⟩
 obtain ⟨x,hx,hf⟩ := b i y hy
 exact ih v x y (h.2 i v x hv hx) hf
theorem map_some {α β : Type} {a : Option α} {f : α → β} {b : β} (h : a.map f = some b) : ∃ x,a = some x ∧ f x = b := by
 cases a with
 | none => cases h
 | some x => cases h; exact ⟨x,rfl,rfl⟩
theorem frz_ok {w : World} {r1 : Rt} {σ1 : St} {K2 : Kno} {γ2 : List Addr} (hH : ∀ (i : Nat) (ao : AO) (n : Nat),σ1.heap[i]? = some (ao,n) → ∃ a es,r1.os[i]? = some (a,es) ∧ RO prg w r1.K r1.γ a ao es)
  (hfl : ∀ p ∈ r1.fl,p.2.dict = none → p.2.slots = #[] → p ∈ K2.fz) (hl : ∀ a vs,KL r1.K a vs → KL K2 a vs) (ht : ∀ a vs,KT r1.K a vs → KT K2 a vs) : ∀ (k : Nat) (v : Value) (x y : AV),RV r1.K r1.γ v x → frz σ1.heap k x = some y → RV K2 γ2 v y
 | 0,_,_,_,_,h => by cases h
 | k + 1,v,x,y,rv,h => by
  have ih := frz_ok (γ2 := γ2) hH hfl hl ht k
  cases rv with
  | none => cases h; exact .none
  | bool b => cases h; exact .bool b
  | int i t => cases h; exact .int i t
  | str x t => cases h; exact .str x t
  | flt x t i hx => cases h; exact .flt x t i hx
  | nxt q it n h1 h2 => cases h
  | fl a vs xs h1 h2 h3 =>
   obtain ⟨ys,e,rfl⟩ := map_some h
   obtain ⟨a1,a2⟩ := frz_list ih ⟨h2,h3⟩ e
   exact .fl a vs ys (hl _ _ h1) a1 a2
  | tp a vs xs h1 h2 h3 =>
   obtain ⟨ys,e,rfl⟩ := map_some h
   obtain ⟨a1,a2⟩ := frz_list ih ⟨h2,h3⟩ e
   exact .tp a vs ys (ht _ _ h1) a1 a2
  | ref a n hγ =>
   refine listM h fun xs m hh h => ?_
   obtain ⟨ys,e,rfl⟩ := map_some h
   obtain ⟨b,es,h1,h2⟩ := hH _ _ _ hh
   have hb : r1.γ[n]? = some b := by unfold Rt.γ; rw [List.getElem?_map,h1]; rfl
   rw [hγ] at hb
   cases hb
   cases h2 with
   | list vs _ nn h3 =>
    obtain ⟨a1,a2⟩ := frz_list ih h3 e
    exact .fl a vs ys (.inr ⟨nn,hfl _ (List.mem_flatMap.mpr ⟨_,List.mem_of_getElem? h1,.head _⟩) rfl rfl⟩) a1 a2
section
variable {cx : Cx} {r : Rt} {σ : St} {s : Shared}
noncomputable def flat : Nat → AV → Bool
 | 0,_ => false
 | _ + 1,.ref _ => false
 | _ + 1,.nxt _ => false
 | k + 1,.fl xs => xs.all (flat k)
 | k + 1,.tp xs => xs.all (flat k)
 | _ + 1,_ => true
theorem flat_ok {K : Kno} {γ γ' : List Addr} : ∀ (k : Nat) {v : Value} {x : AV},flat k x = true → RV K γ v x → RV K γ' v x
 | 0,_,_,h,_ => by cases h
 | k + 1,v,x,h,rv => by
  cases rv with
  | none => exact .none
  | bool b => exact .bool b
  | int i t => exact .int i t
  | str x t => exact .str x t
  | flt x t i hx => exact .flt x t i hx
  | ref a n _ => cases h
  | nxt q it n h1 h2 => cases h
  | fl a vs xs h1 h2 h3 => exact .fl a vs xs h1 h2 fun i v x hv hx => flat_ok k (List.all_eq_true.mp h x (List.mem_of_getElem? hx)) (h3 i v x hv hx)
  | tp a vs xs h1 h2 h3 => exact .tp a vs xs h1 h2 fun i v x hv hx => flat_ok k (List.all_eq_true.mp h x (List.mem_of_getElem? hx)) (h3 i v x hv hx)
structure EntP (cx : Cx) (r : Rt) (s : Shared) (names : List (Str × NameKind)) (L' : Addr) (h₁ : Heap) (m' : Str → Option Value) (cells : Led) (e0 : List (Option AV)) : Prop where
 F : Fr s.heap L' h₁ m'
 N : News s.heap L' h₁ cells
 nd : (cells.map (·.1)).Nodup
 cc : ∀ q ∈ ownOf (L' + 1) names,∃ o v,(q.2,o) ∈ cells ∧ o.data = .cell v
 E : ∀ (k : Nat) (av : AV),e0[k]? = some (some av) → ∃ x v,names[k]? = some (x,.local) ∧ names.lookup x = some .local ∧ m' x = some v ∧ RV (calleeK r s.heap []) [] v av
theorem pure_enter {qual : Str} {scope : Scope} {f : Addr} {cd : Value} {n : Nat} {h₁ : Heap} {L' : Addr} {m' : Str → Option Value} {cells : Led} {e0 : List (Option AV)} {tk : Nat} (R : Rel cx r σ s) (hl : cx.lim = n + 1) (hk : scope.kind = .function) (hnd : (scope.names.map (·.1)).Nodup)
  (X : EntP cx r s scope.names L' h₁ m' cells e0) : Rel (cCx cx qual scope L' f cd s.heap hk hnd hl) ⟨calleeK r s.heap [],m',cells,[],[]⟩ ⟨e0,[]⟩ { s with heap := h₁,toks := tk } := by
 obtain ⟨F,N,nd,cc,hE⟩ := X
 have mu : Rt.mu ⟨calleeK r s.heap [],m',cells,[],[]⟩ (cCx cx qual scope L' f cd s.heap hk hnd hl) = cells := by rw [mu_mut rfl]; exact List.append_nil _
 refine ⟨⟨by rw [mu]; exact nd,fun p hp q hq => (nomatch hq),fun p hp q hq => (nomatch hq),fun p hp => (nomatch hp),fun q => (nomatch (show true = false from q)),⟨.refl,cx.gB _ _ _ R.G R.F⟩,fun a ha => ?_,fun k av e => ?_,rfl,fun i ao m e => by simp at e,cc⟩,F,fun p hp => N p ?_⟩
 ·rcases ha with ha | ⟨o,ha⟩
  ·obtain ⟨o,ho⟩ := R.kh a ha
   exact ⟨o,R.F.keep _ _ ho⟩
  ·exact ⟨o,(R.N _ (mR _ (mL _ ha))).1⟩
 ·obtain ⟨x,v,h1,h2,h3,h4⟩ := hE k av e
  exact ⟨x,.local,v,h1,h2,.inl ⟨rfl,h3⟩,h4⟩
 ·rcases mA hp with h | h
  ·rw [mu] at h; exact h
  ·cases h
noncomputable def plainP (p : Addr × Obj) : Bool := p.2.dict.isNone && p.2.slots.size == 0
theorem plainP_ok {p : Addr × Obj} (h : plainP p = true) : p.2.dict = none ∧ p.2.slots = #[] := by
 unfold plainP at h
 rw [Bool.and_eq_true] at h
 exact ⟨by simpa using h.1,by simpa using h.2⟩
theorem pure_leave {qual : Str} {scope : Scope} {f : Addr} {cd : Value} {n : Nat} {L' : Addr} {m' : Str → Option Value} {cells : Led} {e0 : List (Option AV)} {r1 : Rt} {σ1 : St} {s0 s1 : Shared} (R : Rel cx r σ s) (tm : cx.tm = true) (hfn : cx.fn = true) (hl : cx.lim = n + 1) (hk : scope.kind = .function) (hnd : (scope.names.map (·.1)).Nodup)
  (hs : cx.S s s0) (go : Go (cCx cx qual scope L' f cd s.heap hk hnd hl) ⟨calleeK r s.heap [],m',cells,[],[]⟩ ⟨e0,[]⟩ s0 r1 σ1 s1) (R1 : Rel (cCx cx qual scope L' f cd s.heap hk hnd hl) r1 σ1 s1) :
  ∃ r2,Go cx r σ s r2 σ s1 ∧ Rel cx r2 σ s1 ∧ ∀ k v x y,RV r1.K r1.γ v x → frz σ1.heap k x = some y → RV r2.K r2.γ v y := by
 refine cx.hfnE hfn fun A₀ outer name sc a0 cd0 henv _ hA hB hT hst => ?_
 have T : KtsTurn (frs (cx.env :: outer)) s.heap r1.K.h0 := by rw [← hst]; exact go.tn
 have hfr : cx.env.frame = some cx.L := by rw [henv]; rfl
 obtain ⟨h0',TT,F',B',kk⟩ := reground (hB _ R.G) R.F hfr T R1.F.keep
 obtain ⟨G',Tn'⟩ := hT _ _ R.G TT B'
 have hkn1 : r1.K.kn = (calleeK r s.heap []).kn := go.K.kn
 have mu1 : r1.mu (cCx cx qual scope L' f cd s.heap hk hnd hl) = r1.cs ++ r1.fl := mu_mut rfl
 have newIn : ∀ q ∈ r1.fl.filter plainP ++ r1.K.fz,q ∈ r1.fl ++ r1.K.fz := fun q hq => (mA hq).elim (fun h => mL _ (List.mem_filter.mp h).1) (mR _)
 have none1 : ∀ p ∈ r1.fl ++ r1.K.fz,r1.K.h0.get? p.1 = none ∧ s1.heap.get? p.1 = some p.2 := fun p hp => by
  have := R1.N p (by rw [mu1]; exact (mA hp).elim (fun h => mL _ (mR _ h)) fun h => mR _ (mL _ h))
  exact ⟨this.2.2,this.1⟩
 have apart : ∀ p ∈ r.mu cx ++ (r.K.fz ++ r.it),∀ q ∈ r1.fl ++ r1.K.fz,p.1 ≠ q.1 := fun p hp q hq e => by
  obtain ⟨sl,h2⟩ := T.up (R.N p hp).1
  rw [e,(none1 q hq).1] at h2
  cases h2
 have nf : ∀ q ∈ r.mu cx ++ (r.K.fz ++ r.it),q.1 ∉ frs (cx.env :: outer) := fun q hq hm => by
  obtain ⟨e',he',hfe⟩ := List.mem_filterMap.mp hm
  have z := R.N q hq
  rcases List.mem_cons.mp he' with rfl | he'
  ·rw [hfr] at hfe
   exact z.2.1 (Option.some.inj hfe).symm
  ·obtain ⟨_,o,ho,_⟩ := (hB _ R.G).frames.mem (List.mem_filterMap.mpr ⟨e',he',hfe⟩)
   rw [z.2.2] at ho
   cases ho
 have newN : ∀ q ∈ r1.fl ++ r1.K.fz,s1.heap.get? q.1 = some q.2 ∧ q.1 ≠ cx.L ∧ h0'.get? q.1 = none := fun q hq => by
  obtain ⟨b,a⟩ := none1 q hq
  refine ⟨a,fun e => ?_,?_⟩
  ·obtain ⟨o,_,_,ho,_⟩ := R.F.ns
   obtain ⟨sl,h2⟩ := T.up ho
   rw [← e,b] at h2
   cases h2
  ·cases z : h0'.get? q.1 with
   | none => rfl
   | some o' =>
    cases y : r.K.h0.get? q.1 with
    | none => rw [TT.none_ _ y] at z; cases z
    | some o =>
     obtain ⟨sl,h2⟩ := T.up (R.F.keep _ _ y)
     rw [b] at h2
     cases h2
 have Lt : Later cx r ⟨⟨r.K.kn,h0',r.K.fz ++ (r1.fl.filter plainP ++ r1.K.fz)⟩,r.m,r.cs,r.os,r.it⟩ := ⟨⟨fun p hp => mL _ hp,rfl,fun a o e => TT.up e⟩,⟨[],(List.append_nil _).symm⟩,Tn'⟩
 have up : ∀ a c d dd,r1.K.kn a → (∃ o,r1.K.h0.get? a = some o ∧ o.cls = c ∧ o.data = d ∧ o.dict = dd) → (r.K.kn a ∧ ∃ o,h0'.get? a = some o ∧ o.cls = c ∧ o.data = d ∧ o.dict = dd) ∨ (a,({ cls := c,data := d } : Obj)) ∈ r.K.fz ++ (r1.fl.filter plainP ++ r1.K.fz) := by
  intro a c d dd ha ⟨o,ho,hc,hd,he⟩
  rw [hkn1] at ha
  rcases ha with h1 | ⟨o1,h1⟩
  ·obtain ⟨o2,h2⟩ := R.kh a h1
   obtain ⟨sl2,h4⟩ := T.up (R.F.keep _ _ h2)
   rw [ho] at h4
   cases h4
   obtain ⟨sl3,h5⟩ := TT.up h2
   exact .inl ⟨h1,_,h5,hc,hd,he⟩
  ·obtain ⟨sl2,h4⟩ := T.up (R.N _ (mR _ (mL _ h1))).1
   rw [ho] at h4
   cases h4
   have := plainObj (o := o1) (R.pl _ h1) (show o1.cls = c from hc) (show o1.data = d from hd)
   rw [this] at h1
   exact .inr (mL _ h1)
 refine ⟨⟨⟨r.K.kn,h0',r.K.fz ++ (r1.fl.filter plainP ++ r1.K.fz)⟩,r.m,r.cs,r.os,r.it⟩,⟨Lt,⟨fun j ao n h => ⟨ao,n,h,Nat.le_refl _,fun _ => rfl⟩,rfl,rfl⟩,cx.sT _ _ _ hs (go.S ⟨tm,hfn⟩),fun _ => ⟨rfl,rfl⟩⟩,⟨⟨R.nd,?_,?_,?_,fun q => Bool.noConfusion (tm.symm.trans q),G',?_,?_,R.len,?_,R.cc⟩,F',?_⟩,?_⟩
 ·intro p hp q hq
  rcases mA hq with hq | hq
  ·rcases mA hq with hq | hq
   ·exact R.dj p hp q (mL _ hq)
   ·exact apart p (mL _ hp) q (newIn q hq)
  ·exact R.dj p hp q (mR _ hq)
 ·intro p hp q hq
  rcases mA hp with hp | hp
  ·exact R.di p hp q hq
  ·exact (apart q (mR _ (mR _ hq)) p (newIn p hp)).symm
 ·intro p hp
  rcases mA hp with hp | hp
  ·exact R.pl p hp
  ·rcases mA hp with hp | hp
   ·exact plainP_ok (List.mem_filter.mp hp).2
   ·exact R1.pl p hp
 ·intro a ha
  obtain ⟨o,ho⟩ := R.kh a ha
  obtain ⟨sl,h2⟩ := TT.up ho
  exact ⟨_,h2⟩
 ·intro k av e
  obtain ⟨x,kd,v,h1,h2,h3,h4⟩ := R.E k av e
  refine ⟨x,kd,v,h1,h2,?_,h4.later Lt⟩
  rcases h3 with h3 | ⟨rfl,c,o,hc,hco,ho⟩
  ·exact .inl h3
  ·rcases hco with hco | hco
   ·exact .inr ⟨rfl,c,o,hc,.inl hco,ho⟩
   ·obtain ⟨sl,h5⟩ := TT.up hco
    exact .inr ⟨rfl,c,_,hc,.inr h5,ho⟩
 ·intro i ao m e
  obtain ⟨b,es,h1,h2⟩ := R.H i ao m e
  exact ⟨b,es,h1,h2.later Lt⟩
 ·intro p hp
  have old : ∀ q ∈ r.mu cx ++ (r.K.fz ++ r.it),s1.heap.get? q.1 = some q.2 ∧ q.1 ≠ cx.L ∧ h0'.get? q.1 = none := fun q hq =>
   ⟨kk _ _ (R.N q hq).1 (nf q hq),(R.N q hq).2.1,TT.none_ _ (R.N q hq).2.2⟩
  rcases mA hp with hp | hp
  ·exact old p (mL _ hp)
  ·rcases mA hp with hp | hp
   ·rcases mA hp with hp | hp
    ·exact old p (mR _ (mL _ hp))
    ·exact newN p (newIn p hp)
   ·exact old p (mR _ (mR _ hp))
 ·intro k v x y rv e
  refine frz_ok R1.H (fun p hp h1 h2 => ?_) (fun a vs q => ?_) (fun a vs q => ?_) k v x y rv e
  ·refine mR _ (mL _ (List.mem_filter.mpr ⟨hp,?_⟩))
   unfold plainP
   rw [h1,h2]; rfl
  ·rcases q with ⟨h1,o,h2,h3,⟨n,h4⟩,h5⟩ | ⟨n,h1⟩
   ·rcases up a _ _ _ h1 ⟨o,h2,h3,h4,h5⟩ with ⟨q1,o',q2,q3,q4,q5⟩ | q
    ·exact .inl ⟨q1,o',q2,q3,⟨n,q4⟩,q5⟩
    ·exact .inr ⟨n,q⟩
   ·exact .inr ⟨n,mR _ (mR _ h1)⟩
  ·rcases q with ⟨h1,o,h2,h3,n,h4⟩ | ⟨n,h1⟩
   ·rcases up a _ _ _ h1 ⟨o,h2,h3,h4,rfl⟩ with ⟨q1,o',q2,q3,q4,_⟩ | q
    ·exact .inl ⟨q1,o',q2,q3,n,q4⟩
    ·exact .inr ⟨n,q⟩
   ·exact .inr ⟨n,mR _ (mR _ h1)⟩
end
section
variable {cx : Cx} {r : Rt} {σ : St} {s : Shared}
noncomputable def fPure (np k : Nat) (den : St → Option (AF × St)) (xs : List AV) (σ : St) : Option (AV × St) :=
 if xs.length = np ∧ xs.all (flat 8) = true then den ⟨env0 xs k,[]⟩ >>= fun p => frz p.2.heap 8 (retA p.1) >>= fun v => some (v,σ) else none
theorem cellsAre_fst {cm : Str → Option Value} {l : List (Str × Addr)} {cells : Led} (h : CellsAre cm l cells) : cells.map (·.1) = l.map (·.2) := by
 induction h with
 | nil => rfl
 | cons _ _ ih => rw [List.map_cons,List.map_cons,ih]
theorem cellsAre_mem {cm : Str → Option Value} {l : List (Str × Addr)} {cells : Led} (h : CellsAre cm l cells) {q : Str × Addr} (hq : q ∈ l) : ∃ o,(q.2,o) ∈ cells ∧ o.data = .cell (cm q.1) := by
 induction h with
 | nil => cases hq
 | cons hd _ ih =>
  rcases List.mem_cons.mp hq with rfl | hq
  ·exact ⟨_,.head _,hd⟩
  ·obtain ⟨o,h1,h2⟩ := ih hq
   exact ⟨o,.tail _ h1,h2⟩
theorem cellsFrom_apart : ∀ (names : List (Str × NameKind)) {n : Nat} {acc : List (Str × Addr)},(acc.map (·.2)).Nodup → (∀ q ∈ acc,@LT.lt Nat _ q.2 n) → ((cellsFrom n names acc).map (·.2)).Nodup
 | [],_,_,h,_ => h
 | (x,k) :: r,n,acc,h,hl => by
  unfold cellsFrom
  split
  ·refine cellsFrom_apart r ?_ fun q hq => ?_
   ·rw [List.map_cons,List.nodup_cons]
    refine ⟨fun hm => ?_,h⟩
    obtain ⟨q,hq,e⟩ := List.mem_map.mp hm
    have := hl q hq
    rw [e] at this
    exact absurd this (Nat.lt_irrefl _)
   ·rcases List.mem_cons.mp hq with rfl | hq
    ·exact Nat.lt_succ_self _
    ·exact Nat.lt_succ_of_lt (hl q hq)
  ·exact cellsFrom_apart r h hl
theorem bindL_other {kd : Str → Option NameKind} {x : Str} : ∀ {l : List (Str × Value)} {m : Str → Option Value},(∀ q ∈ l,q.1 ≠ x) → bindL kd l m x = m x
 | [],_,_ => rfl
 | (y,v) :: r,m,h => by
  unfold bindL
  rw [bindL_other fun q hq => h q (.tail _ hq)]
  split
  ·exact if_neg (Ne.symm (h _ (.head _)))
  ·rfl
theorem bindL_zip {kd : Str → Option NameKind} {x : Str} {v : Value} : ∀ {ps : List Str} {vs : List Value} {m : Str → Option Value} {i : Nat},(∀ x ∈ ps,kd x = some .local) → ps.Nodup → vs.length = ps.length → ps[i]? = some x → vs[i]? = some v → bindL kd (ps.zip vs) m x = some v
 | p :: ps,w :: vs,m,i,hk,nd,hl,h1,h2 => by
  rw [List.nodup_cons] at nd
  show bindL kd (ps.zip vs) _ x = some v
  rw [if_pos (hk p (.head _))]
  cases i with
  | zero =>
   cases h1; cases h2
   rw [bindL_other fun q hq e => nd.1 (by rw [← e]; exact (List.of_mem_zip (a := q.1) (b := q.2) hq).1)]
   exact if_pos rfl
  | succ i => exact bindL_zip (fun x hx => hk x (.tail _ hx)) nd.2 (by simpa using hl) (by simpa using h1) (by simpa using h2)
 | [],_,_,i,_,_,_,h1,_ => by simp at h1
 | p :: ps,[],_,_,_,_,hl,_,_ => by simp at hl
theorem fn_pure {f : Addr} {n k : Nat} {ps : List Str} {name qual : Str} {params : Arguments} {body : List Stmt} {scope : Scope} {dV kV doc pm cdv ct oc : Value} {an od : Option Addr} {osl : Array (Option Value)} {den : St → Option (AF × St)}
  (ho : ∀ P,(hd.heap_1 P).lookup f = some ⟨oc,od,.func (fnOf name qual params body scope dV kV doc pm an cdv ct),osl⟩) (hcd : ∀ P,codeIn (hd.heap_1 P) cdv qual = true)
  (hb : ∀ vs : List Value,vs.length = ps.length → bindArgs (fnOf name qual params body scope dV kV doc pm an cdv ct) ⟨vs,[]⟩ = pure (ps.zip vs))
  (hco : scope.isCoroutine = false) (hgen : scope.isGenerator = false) (hk : scope.kind = .function) (hnc : ((cellsFrom 0 scope.names []).map (·.1)).Nodup) (hnd : (scope.names.map (·.1)).Nodup) (hpn : ps.Nodup)
  (hps : scope.names.take ps.length = ps.map fun x => (x,NameKind.local)) (hlk : (ps.all fun x => scope.names.lookup x == some .local) = true)
  (H : SB ⟨scope.names,true,true,true,n,ownN scope.names,cdv⟩ body den) : Fn (n + 1) f (fPure ps.length k den) := by
 intro cx tm hfn hh hl σ xs v σ' hf r s vs R hvs RR hq
 refine ifM hf fun hx hf => ?_
 obtain ⟨hxl,hflat⟩ := hx
 obtain ⟨⟨av,σ1⟩,e1,e2⟩ := bS hf
 obtain ⟨w,e3,e4⟩ := bS e2
 cases e4
 have hvl : vs.length = ps.length := hvs.1.trans hxl
 have hlk' : ∀ x ∈ ps,scope.names.lookup x = some .local := fun x hx => by simpa using List.all_eq_true.mp hlk x hx
 refine (enterPC (K := hd.heap_1 cx.w.params) (cx.gB _ _ _ R.G R.F) R.Xs (R.T.keeps R.F.keep) (ho _) (hcd _) ?_
  (BindsTo.of_eq (hb vs hvl)) (List.all_eq_true.mpr fun y hy => by rw [hlk' _ (List.of_mem_zip (a := y.1) (b := y.2) hy).1]; rfl) hnc (fun L' h₁ tk cells F' N' Y _ _ _ => ?_) hco hgen hk)
 ·have := cx.hk.1
  have := cx.hlim
  unfold recursionLimit
  exact ar9 ‹_› ‹_›
 ·refine H.run (cCx cx qual scope L' f cdv s.heap hk hnd hl) (by show Sig.mk scope.names true cx.hand true n ((ownOf (L' + 1) scope.names).map (·.1)) cdv = _; rw [hh,ownOf_fst]) _ _ _ e1 _ _ (pure_enter (cells := cells) R hl hk hnd ⟨F',N',?_,fun q hq => ?_,fun i a e => ?_⟩) _ _ fun r1 s1 cf go R1 rf => ?_
  ·rw [cellsAre_fst Y]
   exact cellsFrom_apart scope.names List.nodup_nil fun q hq => (nomatch hq)
  ·obtain ⟨o,h1,h2⟩ := cellsAre_mem Y (mem_of_lookup (ownOf_cells hnd hq))
   exact ⟨o,_,h1,h2⟩
  ·have e' := env0_get e
   have hi : i < ps.length := by rw [← hxl]; exact (List.getElem?_eq_some_iff.mp e').1
   have h1 : ps[i]? = some ps[i] := List.getElem?_eq_getElem hi
   have h2 : vs[i]? = some (vs[i]'(by rw [hvl]; exact hi)) := List.getElem?_eq_getElem _
   refine ⟨ps[i],_,?_,hlk' _ (List.getElem_mem hi),bindL_zip (fun x hx => hlk' x hx) hpn hvl h1 h2,?_⟩
   ·have := congrArg (·[i]?) hps
    simp only [List.getElem?_take,hi,if_true,List.getElem?_map,h1] at this
    exact this
   ·exact flat_ok 8 (List.all_eq_true.mp hflat a (List.mem_of_getElem? e')) (RV.block R (hvs.2 i _ _ h2 e'))
  ·obtain ⟨r2,go2,R2,hb⟩ := pure_leave R tm hfn hl hk hnd (cx.sS s _ _) go R1
   have := hq r2 s1 (retC cf) go2 R2 (hb 8 _ _ _ rf.ret' e3)
   cases cf <;> exact this
noncomputable def quietCx (cx : Cx) (qual : Str) (scope : Scope) (L' f : Addr) (cd : Value) (R : Rel cx r σ s) (hk : scope.kind = .function) (hnd : (scope.names.map (·.1)).Nodup) {n : Nat} (hl : cx.lim = n + 1) : Cx where
 w := cx.w
 A := cx.A.deeper (envOf qual scope L' f cd)
 env := envOf qual scope L' f cd
 L := L'
 base := cx.base
 stk := envOf qual scope L' f cd :: cx.stk
 k := cx.k + 3
 lim := n
 tm := true
 hand := cx.hand
 fn := false
 G := fun h => h = s.heap
 Tn := fun h h' => h' = h
 S := cx.S
 p := cx.p
 loose := cx.loose
 mg := cx.mg
 mb := cx.mb
 own := []
 ndn := hnd
 hh := fun q => cx.hh q
 hk := ⟨Nat.le_trans (Nat.succ_le_succ cx.hk.1) (by simp),Nat.add_le_add_right cx.hk.2 3⟩
 hlim := by have := cx.hlim; rw [hl] at this; lia
 hL := rfl
 hf := hk
 hg := rfl
 hb := rfl
 XB := cx.XB
 TB := cx.TB
 bm := cx.bm
 gS := fun h e => by subst e; exact fun b o q => R.F.keep _ _ (cx.gS _ R.G b o q)
 gB := fun h0 h m e F => by subst e; exact Below.push (cx.gB _ _ _ R.G R.F) F hk
 hfn := fun q => Bool.noConfusion q
 sS := cx.sS
 sG := fun _ q => Bool.noConfusion q
 sT := cx.sT
 tr := fun _ => rfl
 tt := fun _ _ _ a b => b.trans a
 tl := fun h h' e a o q => by subst e; exact ⟨o.slots,q⟩
 oc := fun q h => (nomatch h)
 oi := fun x y c _ _ h => (nomatch h)
noncomputable def FnQ (n : Nat) (f : Addr) (F : List AV → St → Option (AV × St)) : Prop :=
 ∀ cx : Cx,cx.hand = true → cx.lim = n → ∀ σ xs v σ',F xs σ = some (v,σ') → ∀ r s vs,Rel cx r σ s → RVs r.K r.γ vs xs → ∀ (RR : Result → Shared → Prop),
  (∀ r' s' cv,Go cx r σ s r' σ' s' → Rel cx r' σ' s' → RV r'.K r'.γ cv v → RR (.ok (.ret cv)) s') → codeAny (model prg cx.w) cx.A (.call (.ref f) ⟨vs,[]⟩) RR s
theorem at_unblock (R : Rel cx r σ s) {K1 K2 : Kno} (hkn : K1.kn = (blkK r s.heap).kn) (h0 : K1.h0 = s.heap) (h2 : K2.h0 = r.K.h0) (k2 : K2.kn = r.K.kn) (hfz : ∀ p ∈ r.K.fz,p ∈ K2.fz) {a : Addr} {c : Value} {d : Data} {dd : Option Addr} (ha : K1.kn a) (ho : ∃ o,K1.h0.get? a = some o ∧ o.cls = c ∧ o.data = d ∧ o.dict = dd) :
  (K2.kn a ∧ ∃ o,K2.h0.get? a = some o ∧ o.cls = c ∧ o.data = d ∧ o.dict = dd) ∨ (a,({ cls := c,data := d } : Obj)) ∈ K2.fz := by
 obtain ⟨o,ho,hc,hd,he⟩ := ho
 rw [hkn] at ha
 rw [h0] at ho
 rcases ha with h1 | ⟨o1,h1⟩
 ·obtain ⟨o2,h3⟩ := R.kh a h1
  have := R.F.keep _ _ h3
  rw [ho] at this
  cases this
  exact .inl ⟨by rw [k2]; exact h1,_,by rw [h2]; exact h3,hc,hd,he⟩
 ·have := (R.N _ (mR _ (mL _ h1))).1
  rw [ho] at this
  cases this
  have := plainObj (o := o1) (R.pl _ h1) hc hd
  rw [this] at h1
  exact .inr (hfz _ h1)
theorem kl_unblock (R : Rel cx r σ s) {K1 K2 : Kno} (hkn : K1.kn = (blkK r s.heap).kn) (h0 : K1.h0 = s.heap) (h2 : K2.h0 = r.K.h0) (k2 : K2.kn = r.K.kn) (hfz : ∀ p ∈ r.K.fz,p ∈ K2.fz) (hfz1 : ∀ p ∈ K1.fz,p ∈ K2.fz) {a : Addr} {vs : List Value} (q : KL K1 a vs) : KL K2 a vs := by
 rcases q with ⟨h1,o,h3,h4,⟨n,h5⟩,h6⟩ | ⟨n,h1⟩
 ·rcases at_unblock R hkn h0 h2 k2 hfz h1 ⟨o,h3,h4,h5,h6⟩ with ⟨q1,o',q2,q3,q4,q5⟩ | q
  ·exact .inl ⟨q1,o',q2,q3,⟨n,q4⟩,q5⟩
  ·exact .inr ⟨n,q⟩
 ·exact .inr ⟨n,hfz1 _ h1⟩
theorem kt_unblock (R : Rel cx r σ s) {K1 K2 : Kno} (hkn : K1.kn = (blkK r s.heap).kn) (h0 : K1.h0 = s.heap) (h2 : K2.h0 = r.K.h0) (k2 : K2.kn = r.K.kn) (hfz : ∀ p ∈ r.K.fz,p ∈ K2.fz) (hfz1 : ∀ p ∈ K1.fz,p ∈ K2.fz) {a : Addr} {vs : List Value} (q : KT K1 a vs) : KT K2 a vs := by
 rcases q with ⟨h1,o,h3,h4,n,h5⟩ | ⟨n,h1⟩
 ·rcases at_unblock R hkn h0 h2 k2 hfz h1 ⟨o,h3,h4,h5,rfl⟩ with ⟨q1,o',q2,q3,q4,_⟩ | q
  ·exact .inl ⟨q1,o',q2,q3,n,q4⟩
  ·exact .inr ⟨n,q⟩
 ·exact .inr ⟨n,hfz1 _ h1⟩
theorem fn_quiet {f : Addr} {n k : Nat} {ps : List Str} {name qual : Str} {params : Arguments} {body : List Stmt} {scope : Scope} {dV kV doc pm cdv ct oc : Value} {an od : Option Addr} {osl : Array (Option Value)} {den : St → Option (AF × St)}
  (ho : ∀ P,(hd.heap_1 P).lookup f = some ⟨oc,od,.func (fnOf name qual params body scope dV kV doc pm an cdv ct),osl⟩) (hcd : ∀ P,codeIn (hd.heap_1 P) cdv qual = true)
  (hb : ∀ vs : List Value,vs.length = ps.length → bindArgs (fnOf name qual params body scope dV kV doc pm an cdv ct) ⟨vs,[]⟩ = pure (ps.zip vs))
  (hco : scope.isCoroutine = false) (hgen : scope.isGenerator = false) (hk : scope.kind = .function) (hnc : (scope.names.all fun x => x.2 != .cell) = true) (hnd : (scope.names.map (·.1)).Nodup) (hpn : ps.Nodup)
  (hps : scope.names.take ps.length = ps.map fun x => (x,NameKind.local)) (hlk : (ps.all fun x => scope.names.lookup x == some .local) = true)
  (H : SB ⟨scope.names,true,true,false,n,[],cdv⟩ body den) : FnQ (n + 1) f (fPure ps.length k den) := by
 intro cx hh hl σ xs v σ' hf r s vs R hvs RR hq
 refine ifM hf fun hx hf => ?_
 obtain ⟨hxl,hflat⟩ := hx
 obtain ⟨⟨av,σ1⟩,e1,e2⟩ := bS hf
 obtain ⟨w,e3,e4⟩ := bS e2
 cases e4
 have hvl : vs.length = ps.length := hvs.1.trans hxl
 have hlk' : ∀ x ∈ ps,scope.names.lookup x = some .local := fun x hx => by simpa using List.all_eq_true.mp hlk x hx
 refine (enterM (led := []) (K := hd.heap_1 cx.w.params) (cx.gB _ _ _ R.G R.F) R.Xs (R.T.keeps R.F.keep) (fun q hq => (nomatch hq)) (ho _) (hcd _) ?_
  (BindsTo.of_eq (hb vs hvl)) (fun y hy => hlk' _ (List.of_mem_zip (a := y.1) (b := y.2) hy).1) (fun g L' h₁ hg F' N' _ _ _ _ => ?_) hco hgen hk (fun x hx => by simpa using List.all_eq_true.mp hnc x hx))
 ·have := cx.hk.1
  have := cx.hlim
  unfold recursionLimit
  exact ar9 ‹_› ‹_›
 ·have hg : g = s.heap := hg
  subst hg
  have start : Rel (quietCx cx qual scope L' f cdv R hk hnd hl) ⟨blkK r s.heap,fun y => (ps.zip vs).reverse.lookup y,[],[],[]⟩ ⟨env0 xs k,[]⟩ { s with heap := h₁,toks := s.toks + (ps.zip vs).length } := by
   refine ⟨⟨List.nodup_nil,fun p hp => (nomatch hp),fun p hp => (nomatch hp),fun p hp => (nomatch hp),fun q => (nomatch (show true = false from q)),rfl,fun a ha => ?_,fun i a e => ?_,rfl,fun i ao m e => by simp at e,fun q hq => (nomatch hq)⟩,F',fun p hp => by cases hp⟩
   ·rcases ha with ha | ⟨o,ha⟩
    ·obtain ⟨o,ho⟩ := R.kh a ha
     exact ⟨o,R.F.keep _ _ ho⟩
    ·exact ⟨o,(R.N _ (mR _ (mL _ ha))).1⟩
   ·have e' := env0_get e
    have hi : i < ps.length := by rw [← hxl]; exact (List.getElem?_eq_some_iff.mp e').1
    have h1 : ps[i]? = some ps[i] := List.getElem?_eq_getElem hi
    have h2 : vs[i]? = some (vs[i]'(by rw [hvl]; exact hi)) := List.getElem?_eq_getElem _
    refine ⟨ps[i],.local,_,?_,hlk' _ (List.getElem_mem hi),.inl ⟨rfl,zip_lookup hpn hvl h1 h2⟩,?_⟩
    ·have := congrArg (·[i]?) hps
     simp only [List.getElem?_take,hi,if_true,List.getElem?_map,h1] at this
     exact this
    ·exact flat_ok 8 (List.all_eq_true.mp hflat a (List.mem_of_getElem? e')) (RV.block R (hvs.2 i _ _ h2 e'))
  refine H.run (quietCx cx qual scope L' f cdv R hk hnd hl) (by show Sig.mk scope.names true cx.hand false n [] cdv = _; rw [hh]) _ _ _ e1 _ _ start _ _ fun r1 s1 cf go R1 rf => ?_
  have hcs1 : r1.cs = [] := by have := go.cs; simpa using this
  have G1 : r1.K.h0 = s.heap := R1.G
  have mu1 : r1.mu (quietCx cx qual scope L' f cdv R hk hnd hl) = r1.fl := by rw [mu_mut rfl,hcs1]; rfl
  have N1 := R1.N
  rw [mu1,G1] at N1
  have st : s.heap.StaysIn s1.heap := fun b o e => R1.F.keep b o (by rw [G1]; exact e)
  obtain ⟨R2,g2⟩ := R.fzs (tk := s.toks) (fz' := r1.fl.filter plainP ++ r1.K.fz) st (fun p hp => by
   rcases mA hp with hp | hp
   ·have := N1 p (mL _ (List.mem_filter.mp hp).1)
    exact ⟨this.1,this.2.2⟩
   ·have := N1 p (mR _ (mL _ hp))
    exact ⟨this.1,this.2.2⟩) (fun p hp => by
   rcases mA hp with hp | hp
   ·exact plainP_ok (List.mem_filter.mp hp).2
   ·exact R1.pl p hp)
  have S2 : cx.S s s1 := cx.sT _ _ _ (cx.sS s _ _) go.S
  have hv : RV (⟨r.K.kn,r.K.h0,r.K.fz ++ (r1.fl.filter plainP ++ r1.K.fz)⟩ : Kno) r.γ (retC cf) v := by
   refine frz_ok R1.H (fun p hp h1 h2 => ?_) (fun a vs q => ?_) (fun a vs q => ?_) 8 _ _ v rf.ret' e3
   ·refine mR _ (mL _ (List.mem_filter.mpr ⟨hp,?_⟩))
    unfold plainP
    rw [h1,h2]; rfl
   ·exact kl_unblock R (K2 := (⟨r.K.kn,r.K.h0,r.K.fz ++ (r1.fl.filter plainP ++ r1.K.fz)⟩ : Kno)) go.K.kn G1 rfl rfl (fun p hp => mL _ hp) (fun p hp => mR _ (mR _ hp)) q
   ·exact kt_unblock R (K2 := (⟨r.K.kn,r.K.h0,r.K.fz ++ (r1.fl.filter plainP ++ r1.K.fz)⟩ : Kno)) go.K.kn G1 rfl rfl (fun p hp => mL _ hp) (fun p hp => mR _ (mR _ hp)) q
  have := hq _ s1 (retC cf) ⟨g2.toLater,g2.toVer,S2,fun _ => ⟨rfl,rfl⟩⟩ ⟨R2.toRelP,R2.F,R2.N⟩ hv
  cases cf <;> exact this
end
noncomputable def binI (op : Operator) (i j : Int) : Option Int := match op with
 | .Add => some (i + j)
 | .Sub => some (i - j)
 | .Mult => if Builtin.Int.intBits i ≤ 64 then some (i * j) else none
 | .Mod => if j = 0 then none else some (i.fmod j)
 | .Pow => if 0 ≤ j ∧ (Builtin.Int.intBits i : Int) * j ≤ 2 ^ 27 then some (i ^ j.toNat) else none
 | _ => none
noncomputable def binL (op : Operator) (xs : List AV) (b : AV) (σ : St) : Option AV := match op with
 | .Add => spreadV b σ >>= fun ys => some (.fl (xs ++ ys))
 | .Mult => (match b with | .int n => if 0 ≤ n ∧ n ≤ 100 ∧ xs.length ≤ 2 then some (.fl (List.replicate n.toNat xs).flatten) else none | _ => none)
 | _ => none
noncomputable def binV (op : Operator) (a b : AV) (σ : St) : Option AV := match a with
 | .int i => (match b with
  | .int j => (binI op i j).map .int
  | .bool q => (match op with | .Add => some (.int (i + if q = true then (1 : Int) else 0)) | .Mult => some (.int (i * if q = true then (1 : Int) else 0)) | _ => none)
  | .flt j => (match op with | .Mult => if i.natAbs < 2 ^ 53 ∧ (i * j).natAbs < 2 ^ 53 then some (.flt (i * j)) else none | _ => none)
  | _ => none)
 | .bool p => (match b with
  | .bool q => (match op with | .Sub => some (.int (b2i p - b2i q)) | _ => none)
  | _ => none)
 | .flt i => (match b with
  | .int j => (match op with | .Div => if j ≠ 0 ∧ j.natAbs < 2 ^ 53 ∧ i.emod j = 0 ∧ (i.ediv j).natAbs < 2 ^ 53 then some (.flt (i.ediv j)) else none | _ => none)
  | _ => none)
 | x => spreadV x σ >>= fun xs => binL op xs b σ
section
variable {ns : Sig} {cx : Cx} {r : Rt} {σ : St} {s : Shared}
theorem binI_ok {op : Operator} {i j k : Int} (h : binI op i j = some k) {t u : Tok} {M : World} {A : Around} {Q : Value → Shared → Prop} {E : Value → Shared → Prop} (hq : Q (.int k s.toks) { s with toks := s.toks + 1 }) : wpAny (model prg M) A (binaryOp op (.int i t) (.int j u)) Q E s := by
 cases op with
 | Add => cases h; exact add_int hq
 | Sub => cases h; exact PyProof.Rows.sub_int' hq
 | Mult =>
  unfold binI at h
  dsimp only at h
  split at h
  ·rename_i hb
   cases h
   exact PyProof.Rows.mul_int hq (IntMulOk.of_left hb)
  ·cases h
 | Mod =>
  unfold binI at h
  dsimp only at h
  split at h
  ·cases h
  ·rename_i hb
   cases h
   exact PyProof.Rows.mod_int' hb hq
 | Pow =>
  unfold binI at h
  dsimp only at h
  split at h
  ·rename_i hb
   cases h
   exact PyProof.Rows.pow_int hb.1 hb.2 hq
  ·cases h
 | _ => cases h
theorem flat_rep {vs : List Value} {xs : List AV} {K : Kno} {γ : List Addr} (h : RVs K γ vs xs) : ∀ n : Nat,RVs K γ (List.replicate n vs).flatten (List.replicate n xs).flatten
 | 0 => ⟨rfl,fun i v x h => by simp at h⟩
 | n + 1 => by
  rw [List.replicate_succ,List.replicate_succ,List.flatten_cons,List.flatten_cons]
  exact h.append (flat_rep h n)
set_option tactic.hygienic true in
theorem binL_ok {op : Operator} {xs : List AV} {a : Addr} {vs : List Value} {b v : AV} (h : binL op xs b σ = some v) (R : Rel cx r σ s) (hl : s.heap.IsList a vs.toArray) (hz : vs.length ≤ 1000) (hvs : RVs r.K r.γ vs xs) {cb : Value} (rb : RV r.K r.γ cb b) {Q : Value → Shared → Prop} {E : Value → Shared → Prop}
  (hq : PV cx r σ s v σ Q) : wpAny (model prg cx.w) cx.A (binaryOp op (.ref a) cb) Q E s := by
 have out : ∀ (D : Addr) (h' : Heap) (ws : List Value) (ys : List AV),RVs r.K r.γ ws ys → Fr r.K.h0 cx.L h' r.m → News r.K.h0 cx.L h' ((D,PySem.W.listOf ws.toArray 0) :: (r.mu cx ++ (r.K.fz ++ r.it))) → (∀ p ∈ r.mu cx ++ (r.K.fz ++ r.it),p.1 < D) → v = .fl ys → Q (.ref D) { s with heap := h' } := fun D h' ws ys hw F' N' l e => by
  obtain ⟨R',g'⟩ := R.fzn (tk := s.toks) F' N' l
  have hw' := hw.later g'.toLater
  subst e
  exact hq _ _ _ g' R' (.fl D ws ys (.inr ⟨0,.head _⟩) hw'.1 hw'.2)
 cases op with
 | Add =>
  obtain ⟨ys,e1,e2⟩ := bS h
  cases e2
  obtain ⟨b',ws,rfl,hl2,hz2,hws⟩ := spO R rb e1
  refine kmk_add_lit R.F R.N hl hl2 (zs := vs ++ ws) (by simp) (fun D h' F' N' l => out D h' _ _ (hvs.append hws) F' N' l rfl) (by show vs.toArray.toList.length + ws.toArray.toList.length ≤ sizeLine; rw [List.toList_toArray,List.toList_toArray,sizeLine_eq]; lia)
 | Mult =>
  unfold binL at h
  dsimp only at h
  split at h
  ·rename_i n
   split at h
   ·rename_i hn
    cases h
    obtain ⟨u,rfl⟩ := rb.int_inv
    have hlen : vs.length ≤ 2 := by rw [hvs.1]; exact hn.2.2
    exact KMa.mul R.F R.N hl (by lia) (by omega) (Nat.le_trans (Nat.mul_le_mul hlen (show n.toNat ≤ 100 by simp_all)) (by decide)) rfl fun D h' F' N' l => out D h' _ _ (flat_rep hvs _) F' N' l rfl
   ·cases h
  ·cases h
 | _ => cases h
set_option tactic.hygienic true in
theorem binV_ok {op : Operator} {a b v : AV} (h : binV op a b σ = some v) (R : Rel cx r σ s) {ca cb : Value} (ra : RV r.K r.γ ca a) (rb : RV r.K r.γ cb b) {Q : Value → Shared → Prop} {E : Value → Shared → Prop}
  (hq : PV cx r σ s v σ Q) : wpAny (model prg cx.w) cx.A (binaryOp op ca cb) Q E s := by
 unfold binV at h
 split at h
 ·rename_i i
  obtain ⟨t,rfl⟩ := ra.int_inv
  split at h
  ·obtain ⟨k,e,rfl⟩ := map_some h
   obtain ⟨u,rfl⟩ := rb.int_inv
   exact binI_ok e (hq r _ _ .same R.tok (.int _ _))
  ·obtain rfl := rb.bool_inv
   split at h
   ·cases h; exact add_int_bool (hq r _ _ .same R.tok (.int _ _))
   ·cases h; exact IntBool.mul_int_bool (hq r _ _ .same R.tok (.int _ _))
   ·cases h
  ·split at h
   ·split at h
    ·rename_i hb
     cases h
     obtain ⟨x,u,rfl,hx⟩ := rb.flt_inv
     exact PyProof.Rows.mul_if_fits (Nat.lt_of_lt_of_le hb.1 (Nat.pow_le_pow_right (by decide) (by decide))) (hq r _ _ .same R.tok (.flt _ _ _ (isI_mul (isI_ofInt hb.1) hx hb.2)))
    ·cases h
   ·cases h
  ·cases h
 ·obtain rfl := ra.bool_inv
  split at h
  ·obtain rfl := rb.bool_inv
   split at h
   ·cases h; exact sub_bool (hq r _ _ .same R.tok (.int _ _))
   ·cases h
  ·cases h
 ·rename_i i
  obtain ⟨x,t,rfl,hx⟩ := ra.flt_inv
  split at h
  ·obtain ⟨u,rfl⟩ := rb.int_inv
   split at h
   ·split at h
    ·rename_i hb
     cases h
     have hj := isI_ofInt hb.2.1
     refine AutoFloatOps.truediv_fi_2 (fun h => by rw [isI_notInf hj] at h; cases h) (fun h => by rw [isI_isZero hj] at h; exact hb.1 (by simpa using h)) ?_
     have e := Int.mul_ediv_cancel' (Int.dvd_of_emod_eq_zero hb.2.2.1)
     exact hq r _ _ .same R.tok (.flt _ _ _ (isI_div (q := i.ediv _) (by have e2 := e; change _ * i.ediv _ = i at e2; rw [e2]; exact hx) hj hb.1 hb.2.2.2))
    ·cases h
   ·cases h
  ·cases h
 ·obtain ⟨xs,e1,e2⟩ := bS h
  obtain ⟨a',vs,rfl,hl,hz,hvs⟩ := spO R ra e1
  exact binL_ok e2 R hl hz hvs rb hq
theorem se_bin {l e : PySem.Expr} {op : Operator} {pos : Pos} {fl fe : St → Option (AV × St)} (hl : SE ns l fl) (he : SE ns e fe) : SE ns (.BinOp l op e pos) (fun σ => fl σ >>= fun p => fe p.2 >>= fun q => (binV op p.1 q.1 q.2).map fun v => (v,q.2)) := by
 refine ⟨?_⟩
 intro cx hn σ v σ' hf r s R Q E hq
 obtain ⟨⟨a,σ1⟩,e1,e2⟩ := bS hf
 obtain ⟨⟨b,σ2⟩,e3,e4⟩ := bS e2
 obtain ⟨w,e5,e6⟩ := map_some e4
 cases e6
 refine wpAny_BinOp (hl.run cx hn _ _ _ e1 r s R _ _ fun r1 s1 ca g1 R1 ra => he.run cx hn _ _ _ e3 r1 s1 R1 _ _ fun r2 s2 cb g2 R2 rb => ?_)
 exact binV_ok e5 R2 (ra.later g2.toLater) rb fun r3 s3 cv g3 R3 rv => hq r3 s3 cv ((g1.trans g2).trans g3) R3 rv
end
structure AT (ns : Sig) (op : BoolOp) (es : List PySem.Expr) (f : St → Option (Bool × St)) : Prop where
 run : ∀ cx : Cx,cx.sig = ns → ∀ σ v σ',f σ = some (v,σ') → ∀ r s,Rel cx r σ s → ∀ (Q : Bool → Shared → Prop) (E : Value → Shared → Prop),
  PB cx r σ s v σ' Q → wpAny (model prg cx.w) cx.A (allTrue op es cx.env) Q E s
section
variable {ns : Sig} {cx : Cx} {r : Rt} {σ : St} {s : Shared}
theorem at_nil {op : BoolOp} : AT ns op [] (fun σ => some (op == .And,σ)) := by
 refine ⟨?_⟩
 intro cx hn σ v σ' hf r s R Q E hq
 replace hq := hq.eq hf
 cases op
 ·exact wpAny_allTrue_And_nil (hq r s .refl R)
 ·exact wpAny_allTrue_Or_nil (hq r s .refl R)
theorem at_or {e : PySem.Expr} {es : List PySem.Expr} {f g : St → Option (Bool × St)} (h : ST ns e f) (t : AT ns .Or es g) : AT ns .Or (e :: es) (fun σ => f σ >>= fun p => if p.1 then some (true,p.2) else g p.2) := by
 refine ⟨?_⟩
 intro cx hn σ v σ' hf r s R Q E hq
 obtain ⟨⟨b,σ1⟩,e1,e2⟩ := bS hf
 refine wpAny_allTrue_Or_cons (h.run cx hn _ _ _ e1 r s R _ _ fun r1 s1 g1 R1 => ?_)
 cases b with
 | false => exact t.run cx hn _ _ _ e2 r1 s1 R1 _ _ fun r2 s2 g2 R2 => hq r2 s2 (g1.trans g2) R2
 | true => cases e2; exact hq r1 s1 g1 R1
theorem st_bool {op : BoolOp} {es : List PySem.Expr} {pos : Pos} {f : St → Option (Bool × St)} (h : AT ns op es f) : ST ns (.BoolOp op es pos) f := by
 refine ⟨?_⟩
 intro cx hn σ v σ' hf r s R Q E hq
 exact wpAny_isTrue_BoolOp (h.run cx hn _ _ _ hf r s R _ _ hq)
theorem st_not {e : PySem.Expr} {pos : Pos} {f : St → Option (Bool × St)} (h : ST ns e f) : ST ns (.UnaryOp .Not e pos) (fun σ => (f σ).map fun p => (!p.1,p.2)) := by
 refine ⟨?_⟩
 intro cx hn σ v σ' hf r s R Q E hq
 obtain ⟨⟨b,σ1⟩,e1,e2⟩ := map_some hf
 cases e2
 exact wpAny_isTrue_Not (h.run cx hn _ _ _ e1 r s R _ _ hq)
theorem se_cmp {l c : PySem.Expr} {op : CmpOp} {pos : Pos} {fl fc : St → Option (AV × St)} (hl : SE ns l fl) (hc : SE ns c fc) (hb : behindInMarks op c = false) :
  SE ns (.Compare l [op] [c] pos) (fun σ => fl σ >>= fun p => fc p.2 >>= fun q => (cmpV op p.1 q.1 q.2).map fun b => (.bool b,q.2)) := by
 refine ⟨?_⟩
 intro cx hn σ v σ' hf r s R Q E hq
 obtain ⟨⟨a,σ1⟩,h1,h2⟩ := bS hf
 obtain ⟨⟨b,σ2⟩,h3,h4⟩ := bS h2
 obtain ⟨c',e,e6⟩ := map_some h4
 cases e6
 refine wpAny_Compare1 (hl.run cx hn _ _ _ h1 r s R _ _ fun r1 s1 ca g1 R1 ra => hc.run cx hn _ _ _ h3 r1 s1 R1 _ _ fun r2 s2 cb g2 R2 rb => ?_) hb
 exact cmpV_ok e R2 (ra.later g2.toLater) rb fun s3 g3 R3 => hq r2 s3 _ ((g1.trans g2).trans g3) R3 (.bool _)
theorem se_bool1 {op : BoolOp} {e : PySem.Expr} {pos : Pos} {f : St → Option (AV × St)} (h : SE ns e f) : SE ns (.BoolOp op [e] pos) f := by
 refine ⟨?_⟩
 intro cx hn σ v σ' hf r s R Q E hq
 exact BoolOp_one (h.run cx hn _ _ _ hf r s R _ _ hq)
theorem se_and {e e2 : PySem.Expr} {es : List PySem.Expr} {pos : Pos} {f g : St → Option (AV × St)} (h : SE ns e f) (t : SE ns (.BoolOp .And (e2 :: es) pos) g) : SE ns (.BoolOp .And (e :: e2 :: es) pos) (fun σ => f σ >>= fun p => truthV p.1 p.2 >>= fun b => if b then g p.2 else some p) := by
 refine ⟨?_⟩
 intro cx hn σ v σ' hf r s R Q E hq
 obtain ⟨⟨a,σ1⟩,h1,h2⟩ := bS hf
 obtain ⟨b,h3,h4⟩ := bS h2
 refine BoolOp_and (h.run cx hn _ _ _ h1 r s R _ _ fun r1 s1 ca g1 R1 ra => truthV_ok h3 R1 ra fun s2 g2 R2 => ?_)
 cases b with
 | true => exact t.run cx hn _ _ _ h4 r1 s2 R2 _ _ fun r3 s3 cv g3 R3 rv => hq r3 s3 cv ((g1.trans g2).trans g3) R3 rv
 | false => cases h4; exact hq r1 s2 ca (g1.trans g2) R2 ra
theorem se_or {e e2 : PySem.Expr} {es : List PySem.Expr} {pos : Pos} {f g : St → Option (AV × St)} (h : SE ns e f) (t : SE ns (.BoolOp .Or (e2 :: es) pos) g) : SE ns (.BoolOp .Or (e :: e2 :: es) pos) (fun σ => f σ >>= fun p => truthV p.1 p.2 >>= fun b => if b then some p else g p.2) := by
 refine ⟨?_⟩
 intro cx hn σ v σ' hf r s R Q E hq
 obtain ⟨⟨a,σ1⟩,h1,h2⟩ := bS hf
 obtain ⟨b,h3,h4⟩ := bS h2
 refine BoolOp_or (h.run cx hn _ _ _ h1 r s R _ _ fun r1 s1 ca g1 R1 ra => truthV_ok h3 R1 ra fun s2 g2 R2 => ?_)
 cases b with
 | false => exact t.run cx hn _ _ _ h4 r1 s2 R2 _ _ fun r3 s3 cv g3 R3 rv => hq r3 s3 cv ((g1.trans g2).trans g3) R3 rv
 | true => cases h4; exact hq r1 s2 ca (g1.trans g2) R2 ra
theorem se_not {e : PySem.Expr} {pos : Pos} {f : St → Option (AV × St)} (h : SE ns e f) : SE ns (.UnaryOp .Not e pos) (fun σ => f σ >>= fun p => (truthV p.1 p.2).map fun b => (.bool !b,p.2)) := by
 refine ⟨?_⟩
 intro cx hn σ v σ' hf r s R Q E hq
 obtain ⟨⟨a,σ1⟩,h1,h2⟩ := bS hf
 obtain ⟨b,h3,h4⟩ := map_some h2
 cases h4
 refine UnaryOp_ (h.run cx hn _ _ _ h1 r s R _ _ fun r1 s1 ca g1 R1 ra => not_of (truthV_ok h3 R1 ra fun s2 g2 R2 => hq r1 s2 _ (g1.trans g2) R2 (.bool _)))
end
section
variable {ns : Sig} {cx : Cx} {r : Rt} {σ : St} {s : Shared}
set_option tactic.hygienic true in
theorem intsOf_ok2 (R : Rel cx r σ s) {b : AV} {ks : List Int} (h : intsOf b σ = some ks) {cb : Value} (rb : RV r.K r.γ cb b) : ∃ a vs,cb = .ref a ∧ IsLd s.heap a vs ∧ IntsAre vs ks := by
 unfold intsOf at h
 split at h
 ·obtain ⟨a,vs,rfl,hk,hlen,hall⟩ := rb.fl_inv
  exact ⟨a,vs,rfl,R.kld hk,toInts_ok ⟨hlen,hall⟩ h⟩
 ·rename_i n
  refine listM h fun xs kk hh h => ?_
  obtain ⟨a,rfl,hγ⟩ := rb.ref_inv
  obtain ⟨es,h5,h6⟩ := R.idx hγ hh
  obtain ⟨vs,nn,rfl,h7⟩ := h6.list_inv
  exact ⟨a,vs,rfl,⟨_,R.get h5 (.head _),rfl,⟨nn,rfl⟩,rfl⟩,toInts_ok h7 h⟩
 ·cases h
noncomputable def isIL (v : AV) (σ : St) : Bool := (intsOf v σ).isSome
theorem get_ints {name : Str} {id : String} (sl : Slot "list" name id) (ty : typeOf (.builtin id) = pure (.type "method_descriptor")) : Get ns name id isIL := by
 intro cx r σ s ov co hn R ro hp Q E pl h
 obtain ⟨ks,e⟩ := Option.isSome_iff_exists.mp hp
 obtain ⟨a,vs,rfl,⟨o,ho,hc,_,hd⟩,_⟩ := intsOf_ok2 R e ro
 exact getMethod_builtin ⟨o,ho,hc⟩ PySem.F.plainAttrs_list sl ty (fun b e => by cases e; exact ⟨o,ho,hd⟩) h
noncomputable def sumV (o : AV) (σ : St) : Option (AV × St) := (intsOf o σ).map fun ks => (.int ks.sum,σ)
theorem op_sum (hand : ns.hand = true) : Op0 ns "sum" sumV := by
 intro cx r σ s ov co v σ' hn R ro h Q E hq
 obtain ⟨ks,e,e2⟩ := map_some h
 cases e2
 obtain ⟨a,vs,rfl,hl,hi⟩ := iO R e ro
 exact LSm.sum_ints R.F R.N (hhOf hn hand) hl hi fun h' tk t' F' N' => hq r _ _ ⟨.refl,.refl,cx.sS ..,fun _ => ⟨rfl,rfl⟩⟩ (R.fn F' N') (.int _ _)
noncomputable def countV (o x : AV) (σ : St) : Option (AV × St) := match x with
 | .int k => (intsOf o σ).map fun ks => (.int (ks.count k : Nat),σ)
 | _ => none
theorem op_count : Op1 ns "list.count" countV := by
 intro cx r σ s ov co xv cv v σ' hn R ro rx h Q E hq
 refine intM h fun _ eM h => ?_
 subst eM
 obtain ⟨ks,e,e2⟩ := map_some h
 cases e2
 cases rx
 obtain ⟨a,vs,rfl,hl,hi⟩ := iO R e ro
 exact count_list_ints hl hi (hq r _ _ .same R.tok (.int _ _))
noncomputable def indexV (o x : AV) (σ : St) : Option (AV × St) := match x with
 | .int k => intsOf o σ >>= fun ks => if ks.length < 1000 then (ks.findIdx? (· == k)).map fun (j : Nat) => (.int (j : Int),σ) else none
 | _ => none
theorem op_index : Op1 ns "list.index" indexV := by
 intro cx r σ s ov co xv cv v σ' hn R ro rx h Q E hq
 refine intM h fun k eM h => ?_
 subst eM
 obtain ⟨ks,e,e2⟩ := bS h
 refine ifM e2 fun hz e2 => ?_
 obtain ⟨j,e3,e4⟩ := map_some e2
 cases e4
 obtain ⟨t,rfl⟩ := rx.int_inv
 obtain ⟨a,vs,rfl,⟨o,ho,hc,⟨n,hd⟩,hdd⟩,hi⟩ := intsOf_ok2 R e ro
 obtain ⟨cls,dd,data,sl⟩ := o
 dsimp only at hc hd
 subst hc hd
 have hlen := hi.length
 obtain ⟨hj,hp,hno⟩ := List.findIdx?_eq_some_iff_getElem.mp e3
 have at' : ∀ (m : Nat) (hm : m < vs.length),isInt k vs[m] = (ks[m]'(by rw [← hlen]; exact hm) == k) := fun m hm => by
  obtain ⟨e',t',h1,h2⟩ := hi.at m vs[m] (List.getElem?_eq_getElem hm)
  rw [List.getElem?_eq_getElem (by rw [← hlen]; exact hm)] at h2
  rw [h1,← Option.some.inj h2]
  rfl
 have hj' : j < vs.length := by rw [hlen]; exact hj
 refine call_meets PySem.F.slot_list_index ⟨_,ho,rfl⟩ PySem.F.entry_list_index (PySem.F.args_list_index_2 _ _) (PySem.SeqAt.list_indexAt a vs.toArray n dd sl (.int k t) (isInt k) j (by rw [List.size_toArray]; exact hj') (by lia) (by
  show isInt k vs[j] = true
  rw [at' j hj']; exact hp) (fun m hm hlt => by
  have hm' : m < vs.length := by rw [List.size_toArray] at hm; exact hm
  show isInt k vs[m] = false
  rw [at' m hm']
  simpa using hno m hlt)) ⟨ho,fun y hy => (eq_isInt k t hi y (by simpa using hy)).at _ _,hq r _ _ .same R.tok (.int _ _)⟩
end
section
variable {ns : Sig} {cx : Cx} {r : Rt} {σ : St} {s : Shared}
noncomputable def absV (o : AV) (σ : St) : Option (AV × St) := match o with
 | .int a => some (.int (if a < 0 then -a else a),σ)
 | _ => none
theorem op_abs : Op0 ns "abs" absV := by
 intro cx r σ s ov co v σ' hn R ro h Q E hq
 refine intM h fun _ eM h => ?_
 subst eM
 replace hq := hq.eq h
 cases ro
 exact PyProof.Rows.call_abs_int fun u tk => hq r _ _ .same R.tok (.int _ _)
noncomputable def maxV (o x : AV) (σ : St) : Option (AV × St) := (intP o x).map fun p => (.int (if p.2 > p.1 then p.2 else p.1),σ)
theorem op_max (hand : ns.hand = true) : Op1 ns "max" maxV := by
 intro cx r σ s ov co xv cv v σ' hn R ro rx h Q E hq
 obtain ⟨⟨i,j⟩,e,e2⟩ := map_some h
 cases e2
 obtain ⟨t,u,rfl,rfl⟩ := intP_ok e ro rx
 refine max_two_ints (hhOf hn hand) fun h' tk hk => ?_
 by_cases hc : j > i
 ·rw [if_pos hc] at hq ⊢
  exact hq r _ _ .same (R.keep hk) (.int _ _)
 ·rw [if_neg hc] at hq ⊢
  exact hq r _ _ .same (R.keep hk) (.int _ _)
noncomputable def fB2 (fa fb : St → Option (AV × St)) (op : AV → AV → St → Option (AV × St)) (σ : St) : Option (AV × St) := fa σ >>= fun p => fb p.2 >>= fun q => op p.1 q.1 q.2
theorem se_b2 {x : Str} {id : String} {xp pos : Pos} {a b : PySem.Expr} {fa fb : St → Option (AV × St)} {op : AV → AV → St → Option (AV × St)} (hop : Op1 ns id op) (hx : ns.names.lookup x = some .globalImplicit) (hnone : ∀ P,nsIn (hd.heap_1 P) mainGlobals x = some none) (hb : bootBuiltins x = some (.builtin id))
  (hd : (x == ("__debug__" : Str)) = false) (h1 : x ≠ "__name__") (ha : SE ns a fa) (hbb : SE ns b fb)
  (hev : ∀ env,eval (.Call (.Name x xp) [a,b] [] pos) env = (do callWith pos (← eval (.Name x xp) env) [] (backTo pos (starEach [a,b] env)) (backToKw pos (keywordEach [] env))) := by intro _; with_unfolding_all rfl)
  (hst : ∀ env,starEach [a,b] env = (false,eval a env) :: starEach [b] env := by intro _; with_unfolding_all rfl) (hst2 : ∀ env,starEach [b] env = (false,eval b env) :: starEach [] env := by intro _; with_unfolding_all rfl)
  (hpl : ∀ env,(backTo pos (starEach [b] env)).any (·.1) = false := by intro _; with_unfolding_all rfl) : SE ns (.Call (.Name x xp) [a,b] [] pos) (fB2 fa fb op) := by
 refine ⟨?_⟩
 intro cx hn σ v σ' hf r s R Q E hq
 obtain ⟨⟨xv,σ1⟩,e1,e2⟩ := bS hf
 obtain ⟨⟨yv,σ2⟩,e3,e4⟩ := bS e2
 refine Call_ (bname hn hx hnone hb hd h1 R ?_) (hev _)
 refine PyProof.Rows.callWith_builtin1 ?_ (hst _) (hpl _)
 refine args_cons (ha.run cx hn _ _ _ e1 r s R _ _ fun r1 s1 cv g1 R1 rv => ?_) (hst _)
 refine args_cons (hbb.run cx hn _ _ _ e3 r1 s1 R1 _ _ fun r2 s2 cw g2 R2 rw => args_nil ?_) (hst2 _)
 exact hop cx r2 σ2 s2 xv cv yv cw v σ' hn R2 (rv.later g2.toLater) rw e4 _ _ fun r3 s3 cz g3 R3 rz => hq r3 s3 cz ((g1.trans g2).trans g3) R3 rz
end
section
variable {ns : Sig} {cx : Cx} {r : Rt} {σ : St} {s : Shared}
noncomputable def sliceV (o : AV) (f : List Int → Int → List Int) (k : AV) (σ : St) : Option (AV × St) := match k with
 | .int i => if 0 ≤ i then intsOf o σ >>= fun ks => if ks.length ≤ 1000 then some (.fl ((f ks i).map .int),σ) else none else none
 | _ => none
theorem slice_ok {value slice : PySem.Expr} {l : Addr} {vs : List Value} {ks ms : List Int} {vl vu : Value} {lo hi : Option Int} (R : Rel cx r σ s) (hl : s.heap.IsList l vs.toArray) (hi' : IntsAre vs ks) (hz : ks.length ≤ 1000) (pl : IsPart vl lo) (pu : IsPart vu hi) (hm : IntsAre (slicePick vs.toArray lo hi none).toList ms) {Q : Value → Shared → Prop} {E : Value → Shared → Prop}
  (hs : ∀ a b,subscripted slice false (.ref a) (.ref b) = operate [.ref b,.ref a] (getItem (.ref a) (.ref b))) (hq : ∀ r' s' cv,Go cx r σ s r' σ s' → Rel cx r' σ s' → RV r'.K r'.γ cv (.fl (ms.map .int)) → Q cv s') :
  wpAny (model prg cx.w) cx.A (subscriptTail value slice (.ref l) (.ref s.heap.objs.size)) Q E { s with heap := s.heap.push { cls := .type "slice",data := .fields #[vl,vu,.none] } } := by
 refine kba_turn (value' := PySem.Expr.Name (PySem.Str.ofString "_") ⟨0,0,0,0⟩) (fun _ => rfl) ?_
 refine kmk_slice_ints R.F R.N hl pl pu hi' hm rfl (fun D ws h' F' N' l hw _ _ => ?_) (hs _ _) (fun _ => rfl) (by rw [List.size_toArray,hi'.length,sizeLine_eq]; lia)
 obtain ⟨R',g'⟩ := R.fzn (tk := s.toks) F' N' l
 have := RVs.ofInts (K := { r.K with fz := (D,PySem.W.listOf (List.toArray ws) 0) :: r.K.fz }) (γ := r.γ) hw
 exact hq _ _ _ g' R' (.fl D ws _ (.inr ⟨0,.head _⟩) this.1 this.2)
theorem se_upto {o e : PySem.Expr} {p pos : Pos} {fo fe : St → Option (AV × St)} (ho : SE ns o fo) (he : SE ns e fe) (hs : ∀ a b,subscripted (.Slice none (some e) none p) false (.ref a) (.ref b) = operate [.ref b,.ref a] (getItem (.ref a) (.ref b)) := by intro _ _; with_unfolding_all rfl) :
  SE ns (.Subscript o (.Slice none (some e) none p) pos) (fun σ => fo σ >>= fun a => fe a.2 >>= fun b => sliceV a.1 (fun ks i => ks.take i.toNat) b.1 b.2) := by
 refine ⟨?_⟩
 intro cx hn σ v σ' hf r s R Q E hq
 obtain ⟨⟨a,σ1⟩,h1,h2⟩ := bS hf
 obtain ⟨⟨b,σ2⟩,h3,h4⟩ := bS h2
 refine Subscript_ (ho.run cx hn _ _ _ h1 r s R _ _ fun r1 s1 ca g1 R1 ra => ?_)
 refine wpAny_Slice (evalPart_none_step (evalPart_some_step (he.run cx hn _ _ _ h3 r1 s1 R1 _ _ fun r2 s2 cb g2 R2 rb => evalPart_none_step ?_)))
 have h4 : sliceV a (fun ks i => ks.take i.toNat) b σ2 = some (v,σ') := h4
 refine intM h4 fun _ eM h4 => ?_
 subst eM
 refine ifM h4 fun hi h4 => ?_
 obtain ⟨ks,e5,e6⟩ := bS h4
 refine ifM e6 fun hz e6 => ?_
 replace hq := hq.eq e6
 cases rb
 obtain ⟨l,vs,rfl,hl,hiv⟩ := iO R2 e5 (ra.later g2.toLater)
 exact slice_ok R2 hl hiv hz .none (.int _ _) (kmk_upto hiv hi) hs fun r3 s3 cv g3 R3 rv => hq r3 s3 cv ((g1.trans g2).trans g3) R3 rv
theorem se_from {o e : PySem.Expr} {p pos : Pos} {fo fe : St → Option (AV × St)} (ho : SE ns o fo) (he : SE ns e fe) (hs : ∀ a b,subscripted (.Slice (some e) none none p) false (.ref a) (.ref b) = operate [.ref b,.ref a] (getItem (.ref a) (.ref b)) := by intro _ _; with_unfolding_all rfl) :
  SE ns (.Subscript o (.Slice (some e) none none p) pos) (fun σ => fo σ >>= fun a => fe a.2 >>= fun b => sliceV a.1 (fun ks i => ks.drop i.toNat) b.1 b.2) := by
 refine ⟨?_⟩
 intro cx hn σ v σ' hf r s R Q E hq
 obtain ⟨⟨a,σ1⟩,h1,h2⟩ := bS hf
 obtain ⟨⟨b,σ2⟩,h3,h4⟩ := bS h2
 refine Subscript_ (ho.run cx hn _ _ _ h1 r s R _ _ fun r1 s1 ca g1 R1 ra => ?_)
 refine wpAny_Slice (evalPart_some_step (he.run cx hn _ _ _ h3 r1 s1 R1 _ _ fun r2 s2 cb g2 R2 rb => evalPart_none_step (evalPart_none_step ?_)))
 have h4 : sliceV a (fun ks i => ks.drop i.toNat) b σ2 = some (v,σ') := h4
 refine intM h4 fun _ eM h4 => ?_
 subst eM
 refine ifM h4 fun hi h4 => ?_
 obtain ⟨ks,e5,e6⟩ := bS h4
 refine ifM e6 fun hz e6 => ?_
 replace hq := hq.eq e6
 cases rb
 obtain ⟨l,vs,rfl,hl,hiv⟩ := iO R2 e5 (ra.later g2.toLater)
 exact slice_ok R2 hl hiv hz (.int _ _) .none (kmk_from hiv hi) hs fun r3 s3 cv g3 R3 rv => hq r3 s3 cv ((g1.trans g2).trans g3) R3 rv
end
section
variable {ns : Sig} {cx : Cx} {r : Rt} {σ : St} {s : Shared}
theorem se_callF {x : Str} {a : PySem.Expr} {as : List PySem.Expr} {xp pos : Pos} {f : Addr} {n : Nat} {fa : St → Option (List AV × St)} {F : List AV → St → Option (AV × St)} (hF : Fn n f F) (ok : Ok ns n) (ha : SA ns (a :: as) fa) (hx : ns.names.lookup x = some .globalImplicit) (hv : ∀ P,nsIn (hd.heap_1 P) mainGlobals x = some (some (.ref f))) (hd' : (x == ("__debug__" : Str)) = false) (hk : ∀ P,keepIn (hd.heap_1 P) (.ref f) = true)
  (hev : ∀ env,eval (.Call (.Name x xp) (a :: as) [] pos) env = (do callWith pos (← eval (.Name x xp) env) [] (backTo pos (starEach (a :: as) env)) (backToKw pos (keywordEach [] env))) := by intro _; with_unfolding_all rfl)
  (he : ∀ env,starEach (a :: as) env = (false,eval a env) :: starEach as env := by intro _; with_unfolding_all rfl) (hplain : ∀ env,(backTo pos (starEach as env)).any (·.1) = false := by intro _; with_unfolding_all rfl) :
  SE ns (.Call (.Name x xp) (a :: as) [] pos) (fun σ => fa σ >>= fun q => F q.1 q.2) := by
 refine ⟨?_⟩
 intro cx hn σ v σ' hf r s R Q E hq
 obtain ⟨⟨xs,σ1⟩,e1,e2⟩ := bS hf
 refine Call_ (nmK R.Fe R.X R.T (hv _) ?_ cx.hg cx.hf (show cx.names.lookup x = _ by rw [nO hn]; exact hx) hd') (hev _)
 refine callWith_K (K := hd.heap_1 cx.w.params) R.X (hk _) ?_ (he _) (hplain _)
 refine ha.run cx hn _ _ _ e1 r s R _ _ _ fun r1 s1 cv g1 R1 rv => ⟨R1.Xs,?_⟩
 exact hF.use ok hn e2 R1 rv fun r2 s2 cw g2 R2 rw => hq r2 s2 cw (g1.trans g2) R2 rw
theorem se_callQ {x : Str} {a : PySem.Expr} {as : List PySem.Expr} {xp pos : Pos} {f : Addr} {n : Nat} {fa : St → Option (List AV × St)} {F : List AV → St → Option (AV × St)} (hF : FnQ n f F) (hand : ns.hand = true) (hlim : ns.lim = n) (ha : SA ns (a :: as) fa) (hx : ns.names.lookup x = some .globalImplicit) (hv : ∀ P,nsIn (hd.heap_1 P) mainGlobals x = some (some (.ref f))) (hd' : (x == ("__debug__" : Str)) = false) (hk : ∀ P,keepIn (hd.heap_1 P) (.ref f) = true)
  (hev : ∀ env,eval (.Call (.Name x xp) (a :: as) [] pos) env = (do callWith pos (← eval (.Name x xp) env) [] (backTo pos (starEach (a :: as) env)) (backToKw pos (keywordEach [] env))) := by intro _; with_unfolding_all rfl)
  (he : ∀ env,starEach (a :: as) env = (false,eval a env) :: starEach as env := by intro _; with_unfolding_all rfl) (hplain : ∀ env,(backTo pos (starEach as env)).any (·.1) = false := by intro _; with_unfolding_all rfl) :
  SE ns (.Call (.Name x xp) (a :: as) [] pos) (fun σ => fa σ >>= fun q => F q.1 q.2) := by
 refine ⟨?_⟩
 intro cx hn σ v σ' hf r s R Q E hq
 obtain ⟨⟨xs,σ1⟩,e1,e2⟩ := bS hf
 refine Call_ (nmK R.Fe R.X R.T (hv _) ?_ cx.hg cx.hf (show cx.names.lookup x = _ by rw [nO hn]; exact hx) hd') (hev _)
 refine callWith_K (K := hd.heap_1 cx.w.params) R.X (hk _) ?_ (he _) (hplain _)
 refine ha.run cx hn _ _ _ e1 r s R _ _ _ fun r1 s1 cv g1 R1 rv => ⟨R1.Xs,?_⟩
 subst hn
 exact wpAny_call (hF cx hand hlim _ _ _ _ e2 r1 s1 _ R1 rv _ fun r2 s2 cw g2 R2 rw => hq r2 s2 cw (g1.trans g2) R2 rw)
end
section
variable {ns : Sig} {cx : Cx} {r : Rt} {σ : St} {s : Shared}
theorem se_tuple {es : List PySem.Expr} {k : Nat} {pos : Pos} {fa : St → Option (List AV × St)} (h : SA ns es fa) : SE ns (.Tuple es k pos) (fun σ => fa σ >>= fun q => if q.1.length < 1000 then some (.tp q.1,q.2) else none) := by
 refine ⟨?_⟩
 intro cx hn σ v σ' hf r s R Q E hq
 obtain ⟨⟨xs,σ1⟩,e1,e2⟩ := bS hf
 refine ifM e2 fun _ e2 => ?_
 replace hq := hq.eq e2
 refine Tuple_ (h.run cx hn _ _ _ e1 r s R _ _ _ fun r1 s1 vs g1 R1 rv => ?_)
 refine wpAny_newTuple ?_ (by rw [rv.1,sizeLine_eq]; lia)
 obtain ⟨R2,g2⟩ := R1.fzn (a := s1.heap.objs.size) (o := tupO vs) (h' := s1.heap.push (tupO vs)) (tk := s1.toks) (R1.F.push _) (R1.N.push R1.F _) (fun p hp => Heap.lt_size (R1.N p hp).1)
 have rv2 := rv.later g2.toLater
 exact hq _ _ _ (g1.trans g2) R2 (.tp _ vs xs (.inr ⟨0,.head _⟩) rv2.1 rv2.2)
end
section
open PySem.AutoSeq1
set_option maxRecDepth 8000 in
theorem iadd_anyL (l : Addr) (items : Array Value) (n : Nat) (b : Addr) (items2 : Array Value) (n2 : Nat) (db : Option Addr) (sb : Array (Option Value)) (hs0 : ¬(!items.isEmpty && Builtin.List.listTooLong (items.size + items2.size)) = true) (hs1 : items.size ≤ sizeLine) (hs2 : items.size + items2.size ≤ sizeLine + 1) :
  Meets (Builtin.«list.__iadd__» ⟨[.ref l,.ref b],[]⟩) (fun _ R s => s.heap.get? l = some { cls := .type "list",dict := none,data := .seq items n,slots := #[] } ∧ s.heap.get? b = some { cls := .type "list",dict := db,data := .seq items2 n2,slots := sb } ∧ R (.ok (.ret (Value.ref l))) { s with heap := s.heap.update l (Obj.mapSeq fun x => x ++ items2),toks := s.toks }) :=
 .of_wp fun prog w A R s h => by
  obtain ⟨hp,g,d,tk,os⟩ := s; obtain ⟨hl,hb,h⟩ := h; have f1 := idx_int; have f2 := PySem.AutoSeq1.sub_tuple_tuple; have f3 := PySem.AutoSeq1.sub_list_list; have f4 := PySem.AutoSeq1.sub_tuple_list; have f5 := PySem.AutoSeq1.sub_list_tuple;
  have hz' : (items ++ items2).size ≤ sizeLine + 1 := by rw [Array.size_append]; exact hs2
  wp_walk using (wpAny_updateSeq hl rfl (hz := hs1) (_hz' := hz')),wpAny_loadPart' hl,wpAny_loadPart' hb; exact ⟨_,rfl,h⟩
end
section
variable {ns : Sig} {cx : Cx} {r : Rt} {σ : St} {s : Shared}
noncomputable def iaddV (op : Operator) (a b : AV) (σ : St) : Option (AV × St) := match a with
 | .ref n => (match op with
  | .Add => (match σ.heap[n]? with
   | some (.list xs,j) => spreadV b σ >>= fun ys => if xs.length + ys.length < 1000 then some (.ref n,turn σ n (.list (xs ++ ys)) j) else none
   | _ => none)
  | _ => none)
 | _ => (inV op a b).map fun x => (x,σ)
theorem iadd_fin (tm : cx.tm = true) (R : Rel cx r σ s) {n : Nat} {a : Addr} {vs ws : List Value} {xs ys : List AV} {nn j : Nat} (hγ : r.γ[n]? = some a) (h5 : r.os[n]? = some (a,[(a,W.listOf vs.toArray nn)])) (hh : σ.heap[n]? = some (.list xs,j)) (h7 : RVs r.K r.γ vs xs) (h8 : RVs r.K r.γ ws ys) {Q : Value → Shared → Prop}
  (hq : ∀ r' s' cv,Go cx r σ s r' (turn σ n (.list (xs ++ ys)) j) s' → Rel cx r' (turn σ n (.list (xs ++ ys)) j) s' → RV r'.K r'.γ cv (.ref n) → r'.K = r.K → r'.γ = r.γ → Q cv s') :
  Q (.ref a) { s with heap := s.heap.update a (Obj.mapSeq fun x => x ++ ws.toArray),toks := s.toks } := by
 obtain ⟨pre,post,e1,hg,a',b'⟩ := (R.updF tm h5 (.head _)).split
 have z := R.N (a,W.listOf vs.toArray nn) (mL _ (ento tm h5 (.head _)))
 obtain ⟨n',hn'⟩ := mapSeq_at (h := s.heap) (fun x => x ++ ws.toArray) z.1
 have e : vs.toArray ++ ws.toArray = (vs ++ ws).toArray := by simp
 rw [e] at hn'
 have N0 := R.N
 rw [e1] at N0
 have N' := hg _ ▸ N0.setIn a' b' (Heap.SameBut.update ..) hn'
 obtain ⟨R',g'⟩ := R.upd tm h5 (.head _) (R.F.change (Heap.SameBut.update ..) z.2.1 z.2.2) N' hh (ao := .list (xs ++ ys)) (by rw [rep_one]; exact .list _ _ _ _ (h7.append h8)) (tk := s.toks)
 exact hq _ _ _ g' R' (.ref _ _ (by rw [show Rt.γ { r with os := repOs a (W.listOf (vs ++ ws).toArray n') r.os } = r.γ from repOs_γ]; exact hγ)) rfl repOs_γ
set_option tactic.hygienic true in
theorem iaddV_ok (tm : cx.tm = true) {op : Operator} {a b x : AV} {σ' : St} (h : iaddV op a b σ = some (x,σ')) (R : Rel cx r σ s) {ca cb : Value} (ra : RV r.K r.γ ca a) (rb : RV r.K r.γ cb b) {Q : Value → Shared → Prop} {E : Value → Shared → Prop}
  (hq : ∀ r' s' cv,Go cx r σ s r' σ' s' → Rel cx r' σ' s' → RV r'.K r'.γ cv x → r'.K = r.K → r'.γ = r.γ → Q cv s') : wpAny (model prg cx.w) cx.A (inplaceOp op ca cb) Q E s := by
 unfold iaddV at h
 split at h
 ·rename_i n
  split at h
  ·refine listM h fun xs j hh h => ?_
   obtain ⟨ys,e1,e2⟩ := bS h
   refine ifM e2 fun hlt e2 => ?_
   cases e2
   obtain ⟨D,rfl,hγ⟩ := ra.ref_inv
   obtain ⟨es,h5,h6⟩ := R.idx hγ hh
   obtain ⟨vs,nn,rfl,h7⟩ := h6.list_inv
   obtain ⟨bd,ws,rfl,hl,hz,hws⟩ := spO R rb e1
   obtain ⟨⟨c,db,d,sb⟩,ho,hc,n2,hd⟩ := hl
   dsimp only at hc hd
   subst hc hd
   have z := R.get h5 (.head _)
   have l1 := h7.1
   have l2 := hws.1
   have ha : s.TypeIs (.ref D) "list" := ⟨_,z,rfl⟩
   have hb' : s.TypeIs (.ref bd) "list" := ⟨_,ho,rfl⟩
   unfold inplaceOp
   refine wpAny_holding ?_
   refine wpAny_bind (wpAny_typeOf ha (wpAny_bind (wpAny_of_eq list_iadd_seq ?_)))
   show wpAny _ cx.A (if false = true then _ else _) Q E s
   rw [if_neg Bool.false_ne_true]
   refine wpAny_bind (binaryOp1_none (nm := "add") ha hb' noFill_list_add ?_)
   refine wpAny_bind (wpAny_of_eq list_iadd_slot ?_)
   refine wpAny_bind (wpAny_rule ?_)
   have sl : sizeLine = 16777216 := sizeLine_eq
   refine call_meets PySem.F.slot_list_iadd ha PySem.F.entry_list_iadd (PySem.F.args_list_iadd_2 _ _) (iadd_anyL D vs.toArray nn bd ws.toArray n2 db sb ?_ ?_ ?_) ⟨z,ho,?_⟩
   ·simp only [Builtin.List.listTooLong,List.size_toArray,Bool.and_eq_true,decide_eq_true_eq,not_and]
    intro _; lia
   ·rw [List.size_toArray]; lia
   ·rw [List.size_toArray,List.size_toArray]; lia
   ·exact iadd_fin tm R hγ h5 hh h7 hws hq
  ·cases h
 ·cases e : inV op a b with
  | none => rw [e] at h; cases h
  | some y =>
   rw [e] at h; cases h
   exact inV_ok e R ra rb fun s' cx' g' R' rx => hq r s' cx' g' R' rx rfl rfl
theorem ss_aug_name {x : Str} {op : Operator} {k : Nat} {px pos : Pos} {e : PySem.Expr} {f : St → Option (AV × St)} (hk : ns.names[k]? = some (x,.local)) (hx : ns.names.lookup x = some .local) (h : SE ns e f) (ht : Tm ns) :
  SS ns (.AugAssign (.Name x px) op e pos) (fun σ => getE k σ >>= fun o => f σ >>= fun p => iaddV op o p.1 p.2 >>= fun q => some (.next,setE k q.1 q.2)) := by
 refine ⟨?_⟩
 intro cx hn σ v σ' hf r s R Q E hq
 obtain ⟨o,e1,e2⟩ := bS hf
 obtain ⟨⟨a,σ1⟩,e3,e4⟩ := bS e2
 obtain ⟨⟨y,σ2⟩,e5,e6⟩ := bS e4
 replace hq := hq.eq e6
 obtain ⟨x',kd',cv,h1,h2,h3,h4⟩ := R.E k o (getE_some e1)
 rw [nO hn,hk] at h1
 cases h1
 rcases h3 with ⟨_,hm⟩ | ⟨hcl,_⟩
 ·refine wpAny_AugAssign_Name (wpAny_loadName_local cx.hf h2 R.Fe.ns hm (h.run cx hn _ _ _ e3 r s R _ _ fun r1 s1 ca g1 R1 ra => ?_))
  refine iaddV_ok (tmOf hn ht) e5 R1 (h4.later g1.toLater) ra fun r2 s2 cy g2 R2 ry _ _ => ?_
  exact store_ok R2 (by rw [nO hn]; exact hk) (by rw [nO hn]; exact hx) ry fun r3 s3 g3 R3 _ _ => hq r3 s3 _ ((g1.trans g2).trans g3) R3 .next
 ·cases hcl
noncomputable def getI (o i : AV) (σ : St) : Option AV := match o,i with
 | .ref n,.int k => (match σ.heap[n]? with
  | some (.list xs,_) => if 0 ≤ k ∧ k < 1000 then xs[k.toNat]? else none
  | _ => none)
 | _,_ => none
noncomputable def putI (o i x : AV) (σ : St) : Option St := match o,i with
 | .ref n,.int k => (match σ.heap[n]? with
  | some (.list xs,j) => if 0 ≤ k ∧ k < 1000 ∧ k < xs.length then some (turn σ n (.list (xs.set k.toNat x)) j) else none
  | _ => none)
 | _,_ => none
theorem getI_ok {o i x : AV} (h : getI o i σ = some x) (R : Rel cx r σ s) {co ci : Value} (ro : RV r.K r.γ co o) (ri : RV r.K r.γ ci i) {Q : Value → Shared → Prop} {E : Value → Shared → Prop}
  (hq : ∀ cv,RV r.K r.γ cv x → Q cv s) : wpAny (model prg cx.w) cx.A (getItem co ci) Q E s := by
 refine refIntM h fun n k eM eM2 h => ?_
 subst eM
 subst eM2
 refine listM h fun xs j hh h => ?_
 refine ifM h fun hc h => ?_
 obtain ⟨a,rfl,hγ⟩ := ro.ref_inv
 obtain ⟨t,rfl⟩ := ri.int_inv
 obtain ⟨es,h5,h6⟩ := R.idx hγ hh
 obtain ⟨vs,nn,rfl,h7⟩ := h6.list_inv
 obtain ⟨cv,e1,e2⟩ := h7.get h
 exact wpAny_getItem_list ⟨_,R.get h5 (.head _),rfl,nn,rfl⟩ hc.1 (by omega) (by simpa using e1) (hq cv e2)
theorem RVs.set {K : Kno} {γ : List Addr} {vs : List Value} {xs : List AV} (h : RVs K γ vs xs) {i : Nat} {v : Value} {x : AV} (hv : RV K γ v x) : RVs K γ (vs.set i v) (xs.set i x) := by
 refine ⟨by rw [List.length_set,List.length_set,h.1],fun j a b e f => ?_⟩
 rw [List.getElem?_set] at e f
 by_cases hj : i = j
 ·rw [if_pos hj] at e f
  refine ifM e fun _ e => ?_
  cases e
  refine ifM f fun _ f => ?_
  cases f; exact hv
 ·rw [if_neg hj] at e f
  exact h.2 j a b e f
theorem putI_ok (tm : cx.tm = true) {o i x : AV} {σ' : St} (h : putI o i x σ = some σ') (R : Rel cx r σ s) {co ci cv : Value} (ro : RV r.K r.γ co o) (ri : RV r.K r.γ ci i) (rx : RV r.K r.γ cv x) {Q : Unit → Shared → Prop} {E : Value → Shared → Prop}
  (hq : PU cx r σ s σ' Q) : wpAny (model prg cx.w) cx.A (setItem co ci cv) Q E s := by
 refine refIntM h fun n k eM eM2 h => ?_
 subst eM
 subst eM2
 refine listM h fun xs j hh h => ?_
 refine ifM h fun hc h => ?_
 replace hq := hq.eq h
 obtain ⟨a,rfl,hγ⟩ := ro.ref_inv
 obtain ⟨t,rfl⟩ := ri.int_inv
 obtain ⟨es,h5,h6⟩ := R.idx hγ hh
 obtain ⟨vs,nn,rfl,h7⟩ := h6.list_inv
 have z := R.N (a,W.listOf vs.toArray nn) (mL _ (ento tm h5 (.head _)))
 refine ki_setAt z.1 hc.1 (by omega) (by rw [List.size_toArray,h7.1]; simp_all) ?_
 obtain ⟨pre,post,e1,hg,a',b'⟩ := (R.updF tm h5 (.head _)).split
 obtain ⟨n',hn'⟩ := mapSeq_at (h := s.heap) (fun y => y.setIfInBounds k.toNat cv) z.1
 have e : vs.toArray.setIfInBounds k.toNat cv = (vs.set k.toNat cv).toArray := by simp
 rw [e] at hn'
 have N0 := R.N
 rw [e1] at N0
 have N' := hg _ ▸ N0.setIn a' b' (Heap.SameBut.update ..) hn'
 obtain ⟨R',g'⟩ := R.upd tm h5 (.head _) (R.F.change (Heap.SameBut.update ..) z.2.1 z.2.2) N' hh (ao := .list (xs.set k.toNat x)) (by rw [rep_one]; exact .list _ _ _ _ (h7.set rx)) (tk := s.toks)
 exact hq _ _ g' R'
theorem ss_aug_item {o i e : PySem.Expr} {op : Operator} {tpos pos : Pos} {fo fi f : St → Option (AV × St)} (ho : SE ns o fo) (hi : SE ns i fi) (h : SE ns e f) (ht : Tm ns)
  (hst : ∀ ov iv new,augStore i ov iv new = (do holding [new,ov,iv] (setItem ov iv new); release [new,ov,iv] []; pure .next) := by intros; rfl) :
  SS ns (.AugAssign (.Subscript o i tpos) op e pos) (fun σ => fo σ >>= fun p => fi p.2 >>= fun q => getI p.1 q.1 q.2 >>= fun old => f q.2 >>= fun t => iaddV op old t.1 t.2 >>= fun y => (putI p.1 q.1 y.1 y.2).map fun σ' => (.next,σ')) := by
 refine ⟨?_⟩
 intro cx hn σ v σ' hf r s R Q E hq
 obtain ⟨⟨a,σ1⟩,e1,e2⟩ := bS hf
 obtain ⟨⟨b,σ2⟩,e3,e4⟩ := bS e2
 obtain ⟨old,e5,e6⟩ := bS e4
 obtain ⟨⟨c,σ3⟩,e7,e8⟩ := bS e6
 obtain ⟨⟨y,σ4⟩,e9,e10⟩ := bS e8
 refine wpAny_AugAssign_SubscriptAny (ho.run cx hn _ _ _ e1 r s R _ _ fun r1 s1 ca g1 R1 ra => hi.run cx hn _ _ _ e3 r1 s1 R1 _ _ fun r2 s2 cb g2 R2 rb => ?_) hst
 refine getI_ok e5 R2 (ra.later g2.toLater) rb fun co ro => h.run cx hn _ _ _ e7 r2 s2 R2 _ _ fun r3 s3 cc g3 R3 rc => ?_
 refine iaddV_ok (tmOf hn ht) e9 R3 (ro.later g3.toLater) rc fun r4 s4 cy g4 R4 ry _ _ => ?_
 cases e11 : putI a b y σ4 with
 | none => dsimp only at e10; rw [e11] at e10; cases e10
 | some σ5 =>
  dsimp only at e10; rw [e11] at e10; replace hq := hq.eq e10
  exact putI_ok (tmOf hn ht) e11 R4 (((ra.later g2.toLater).later g3.toLater).later g4.toLater) ((rb.later g3.toLater).later g4.toLater) ry fun r5 s5 g5 R5 => hq r5 s5 _ ((((g1.trans g2).trans g3).trans g4).trans g5) R5 .next
end
section
variable {prog : Program} {w : World} {A : Around} {E : Value → Shared → Prop} {s : Shared}
theorem draw_listN {it t : Addr} {items : Array Value} (hne : t ≠ it) : ∀ (n i : Nat) (s : Shared) (Q : List Value → Shared → Prop),s.heap.IsListIter it t i → s.heap.IsList t items → i + n ≤ items.size →
  (∀ h',h'.IsListIter it t (i + n) → Heap.SameBut it s.heap h' → Q ((items.toList.drop i).take n) { s with heap := h' }) → wpAny (model prog w) A (draw (.ref it) n) Q E s
 | 0,i,s,Q,hit,_,_,hQ => by
  show wpAny _ _ (pure []) Q E s
  exact wpAny_pure (by simpa using hQ s.heap hit (Heap.SameBut.refl ..))
 | n + 1,i,s,Q,hit,ht,hle,hQ => by
  have hlt : i < items.size := by exact ars ‹_›
  show wpAny _ _ (pyNext (.ref it) >>= _) Q E s
  refine wpAny_bind (wpAny_pyNext_list_item hit ht (x := items[i]) (by simp [hlt]) fun h₁ hit₁ hs₁ => ?_)
  refine wpAny_bind (wpAny_holding (draw_listN hne n (i + 1) _ _ hit₁ (ht.extBut hs₁.extBut hne) (by lia) fun h₂ hit₂ hs₂ => wpAny_pure ?_))
  have hd : items.toList.drop i = items[i] :: items.toList.drop (i + 1) := by simp [List.drop_eq_getElem_cons,hlt]
  have := hQ h₂ (by rw [show i + (n + 1) = i + 1 + n by lia]; exact hit₂) (hs₁.trans hs₂)
  rw [hd,List.take_succ_cons] at this
  exact this
theorem unpackItems_listN {t : Addr} {items : Array Value} {Q : List Value → Shared → Prop} (hh : A.handled = none) (ht : s.heap.IsList t items)
  (hQ : ∀ h',Heap.ExtBut s.heap.objs.size s.heap h' → Q items.toList { s with heap := h' }) : wpAny (model prog w) A (unpackItems (.ref t) items.size none) Q E s := by
 have hlt : t ≠ s.heap.objs.size := by obtain ⟨o,ho,_⟩ := ht; exact Nat.ne_of_lt (Heap.lt_size ho)
 unfold unpackItems
 refine wpAny_bind ?_
 ·unfold notIterableAtAll
  refine wpAny_bind (wpAny_specialOf ht.typeIs slot_list_iter.lookup ?_)
  refine wpAny_pure ?_
  simp only [Bool.false_eq_true,if_false]
  refine wpAny_bind (wpAny_holding (wpAny_pyIter_list ht ?_))
  refine wpAny_bind (wpAny_holding (draw_listN hlt items.size 0 _ _ ⟨_,Heap.get?_push_size _ rfl,rfl,rfl⟩ (ht.push _) (by simp) fun h₁ hit₁ hs₁ => ?_))
  have hall : List.take items.size (List.drop 0 items.toList) = items.toList := by
   rw [List.drop_zero]; exact List.take_of_length_le (by simp)
  rw [hall]
  rw [if_neg (by simp)]
  have ht₁ : h₁.IsList t items := (ht.push _).extBut hs₁.extBut hlt
  refine wpAny_bind (wpAny_holding (wpAny_pyNext_list_end hh hit₁ ht₁ (by simp) fun h₂ he₂ => ?_))
  simp only [Option.isSome_none,Bool.false_eq_true,if_false]
  refine wpAny_pure (hQ h₂ fun b o hb e => he₂ b o hb (hs₁.extBut b o hb (Heap.get?_push_of_some _ e)))
theorem unpack_listN {t : Addr} {items : Array Value} {targets : List (Bool × (Value → Sem Unit))} {Q : Unit → Shared → Prop} (hh : A.handled = none) (ht : s.heap.IsList t items)
  (hn : targets.length = items.size) (hstar : targets.findIdx? (·.1) = none)
  (h : ∀ h',Heap.ExtBut s.heap.objs.size s.heap h' → wpAny (model prog w) A (assignInOrder (targets.map (·.2)) items.toList) Q E { s with heap := h' }) :
  wpAny (model prog w) A (unpack (.ref t) targets) Q E s := by
 unfold unpack
 rw [hn,hstar]
 exact wpAny_bind (wpAny_holding (unpackItems_listN hh ht h))
end
structure AL (ns : Sig) (ts : List PySem.Expr) (f : List AV → St → Option St) : Prop where
 run : ∀ cx : Cx,cx.sig = ns → ∀ σ xs σ',f xs σ = some σ' → ∀ r s vs,Rel cx r σ s → RVs r.K r.γ vs xs → ∀ (Q : Unit → Shared → Prop) (E : Value → Shared → Prop),
  PU cx r σ s σ' Q → wpAny (model prg cx.w) cx.A (assignInOrder (ts.map fun t => assign t cx.env) vs) Q E s
noncomputable def fCons1 (f : AV → St → Option St) (g : List AV → St → Option St) : List AV → St → Option St
 | [],_ => none
 | x :: xs,σ => f x σ >>= fun σ1 => g xs σ1
noncomputable def unpV (v : AV) (σ : St) : Option (List AV) := match v with
 | .fl xs => some xs
 | .tp xs => some xs
 | .ref n => (match σ.heap[n]? with
  | some (.list xs,_) => some xs
  | _ => none)
 | _ => none
section
variable {ns : Sig} {cx : Cx} {r : Rt} {σ : St} {s : Shared}
theorem al_nil : AL ns [] (fun _ σ => some σ) := by
 refine ⟨?_⟩
 intro cx hn σ xs σ' hf r s vs R rv Q E hq
 replace hq := hq.eq hf
 exact PyProof.Rows.assignInOrder_nil (hq r s .refl R)
theorem al_cons {t : PySem.Expr} {ts : List PySem.Expr} {f : AV → St → Option St} {g : List AV → St → Option St} (h : AS ns t f) (hs : AL ns ts g) : AL ns (t :: ts) (fCons1 f g) := by
 refine ⟨?_⟩
 intro cx hn σ xs σ' hf r s vs R rv Q E hq
 cases xs with
 | nil => cases hf
 | cons x xs =>
  cases vs with
  | nil => have := rv.1; simp at this
  | cons v vs =>
   obtain ⟨σ1,e1,e2⟩ := bS hf
   have rt : RVs r.K r.γ vs xs := ⟨by have := rv.1; simpa using this,fun i a b e f => rv.2 (i + 1) a b (by simpa using e) (by simpa using f)⟩
   refine PyProof.Rows.assignInOrder_cons (h.run cx hn _ _ _ e1 r s v R (rv.2 0 v x rfl rfl) _ _ fun r1 s1 g1 R1 => ?_)
   exact hs.run cx hn _ _ _ e2 r1 s1 vs R1 (rt.later g1.toLater) _ _ fun r2 s2 g2 R2 => hq r2 s2 (g1.trans g2) R2
theorem stays_new {h h' : Heap} (x : Heap.ExtBut h.objs.size h h') : h.StaysIn h' := fun b o e => x b o (Nat.ne_of_lt (Heap.lt_size e)) e
theorem as_tup {es : List PySem.Expr} {k : Nat} {pos : Pos} {ta : List AV → St → Option St} (h : AL ns es ta) (hand : ns.hand = true) (h1 : ∀ env,(assignEach es env).map (·.2) = es.map fun t => assign t env) (h2 : ∀ env,(assignEach es env).findIdx? (·.1) = none) :
  AS ns (.Tuple es k pos) (fun v σ => unpV v σ >>= fun xs => if xs.length = es.length then ta xs σ else none) := by
 refine ⟨?_⟩
 intro cx hn σ x σ' hf r s v R rv Q E hq
 obtain ⟨xs,e1,e2⟩ := bS hf
 refine ifM e2 fun hlen e2 => ?_
 have hz : ∀ env,(assignEach es env).length = es.length := fun env => by
  have := congrArg List.length (h1 env)
  rw [List.length_map,List.length_map] at this
  exact this
 have hh := hhOf hn hand
 have fin : ∀ vs h',RVs r.K r.γ vs xs → Heap.ExtBut s.heap.objs.size s.heap h' → wpAny (model prg cx.w) cx.A (assignInOrder ((assignEach es cx.env).map (·.2)) vs) Q E { s with heap := h' } := fun vs h' rvs he => by
  rw [h1]
  exact h.run cx hn _ _ _ e2 r _ vs (R.keep (tk := s.toks) (stays_new he)) rvs _ _ fun r2 s2 g2 R2 => hq r2 s2 ((Go.same (cx := cx)).trans g2) R2
 rw [PyProof.Rows.assign_Tuple]
 refine wpAny_bind (wpAny_standAt ?_)
 unfold unpV at e1
 split at e1
 ·cases e1
  obtain ⟨a,vs,rfl,hk,hl,hall⟩ := rv.fl_inv
  exact unpack_listN hh (R.kl hk) (by rw [hz,List.size_toArray,hl,hlen]) (h2 _) fun h' he => fin vs h' ⟨hl,hall⟩ he
 ·cases e1
  obtain ⟨a,vs,rfl,hk,hl,hall⟩ := rv.tp_inv
  exact wpAny_unpack_tuple hh (R.kt hk) (by rw [hz,List.size_toArray,hl,hlen]) (h2 _) fun h' he => fin vs h' ⟨hl,hall⟩ he
 ·rename_i n
  refine listM e1 fun ys j hhp e1 => ?_
  cases e1
  obtain ⟨a,rfl,hγ⟩ := rv.ref_inv
  obtain ⟨es',h5,h6⟩ := R.idx hγ hhp
  obtain ⟨vs,nn,rfl,h7⟩ := h6.list_inv
  exact unpack_listN hh ⟨_,R.get h5 (.head _),rfl,nn,rfl⟩ (by rw [hz,List.size_toArray,h7.1,hlen]) (h2 _) fun h' he => fin vs h' h7 he
 ·cases e1
theorem ss_unpack {es : List PySem.Expr} {k : Nat} {tpos pos : Pos} {e : PySem.Expr} {ta : AV → St → Option St} {f : St → Option (AV × St)} (he : SE ns e f) (h : AS ns (.Tuple es k tpos) ta)
  (hs : ∀ env,swapsWithSole [.Tuple es k tpos] e pos.line env = pure false) (hw : ∀ env,swappedStores [.Tuple es k tpos] e env = pure none) :
  SS ns (.Assign [.Tuple es k tpos] e pos) (fun σ => f σ >>= fun p => (ta p.1 p.2).map fun σ' => (.next,σ')) := by
 refine ⟨?_⟩
 intro cx hn σ v σ' hf r s R Q E hq
 obtain ⟨⟨a,σ1⟩,e1,e2⟩ := bS hf
 dsimp only at e2
 cases e3 : ta a σ1 with
 | none => rw [e3] at e2; cases e2
 | some σ2 =>
  rw [e3] at e2; replace hq := hq.eq e2
  refine PyProof.Rows.Assign_Tuple (he.run cx hn _ _ _ e1 r s R _ _ fun r1 s1 cv g1 R1 rv => ?_) (hs _) (hw _)
  exact h.run cx hn _ _ _ e3 r1 s1 cv R1 rv _ _ fun r2 s2 g2 R2 => hq r2 s2 _ (g1.trans g2) R2 .next
end
section
variable {ns : Sig} {cx : Cx} {r : Rt} {σ : St} {s : Shared}
noncomputable def fListF (fa : St → Option (List AV × St)) (σ : St) : Option (AV × St) := fa σ >>= fun q => if q.1.length < 1000 then some (.fl q.1,q.2) else none
theorem sLF {es : List PySem.Expr} {pos : Pos} {fa : St → Option (List AV × St)} (h : SA ns es fa) : SE ns (.List es pos) (fListF fa) := by
 refine ⟨?_⟩
 intro cx hn σ v σ' hf r s R Q E hq
 obtain ⟨⟨xs,σ1⟩,e1,e2⟩ := bS hf
 refine ifM e2 fun _ e2 => ?_
 replace hq := hq.eq e2
 refine List_ (h.run cx hn _ _ _ e1 r s R _ _ _ fun r1 s1 vs g1 R1 rv => ?_)
 refine newList_K R1.F R1.N (fun l h' F' N' hl => ?_) (by rw [rv.1,sizeLine_eq]; lia)
 obtain ⟨R2,g2⟩ := R1.fzn (tk := s1.toks) F' N' hl
 have rv2 := rv.later g2.toLater
 exact hq _ _ _ (g1.trans g2) R2 (.fl _ vs xs (.inr ⟨_,.head _⟩) rv2.1 rv2.2)
theorem src_range {y : Str} {py pr : Pos} {a : PySem.Expr} {fa : St → Option (AV × St)} (ha : SE ns a fa) (hand : ns.hand = true)
  (hy : ns.names.lookup y = some .globalImplicit) (hnone : ∀ P,nsIn (hd.heap_1 P) mainGlobals y = some none) (hbt : bootBuiltins y = some (.type "range")) (hdb : (y == ("__debug__" : Str)) = false) (h1 : y ≠ "__name__")
  (hev : ∀ env,eval (.Call (.Name y py) [a] [] pr) env = (do callWith pr (← eval (.Name y py) env) [] (backTo pr (starEach [a] env)) (backToKw pr (keywordEach [] env))) := by intro _; with_unfolding_all rfl)
  (hst : ∀ env,starEach [a] env = (false,eval a env) :: starEach [] env := by intro _; with_unfolding_all rfl) :
  Src ns (.Call (.Name y py) [a] [] pr) (fun σ => fa σ >>= fun p => match p.1 with | .int n => if 0 ≤ n ∧ n ≤ 1000 then some (rangeL n.toNat,p.2) else none | _ => none) := by
 refine ⟨?_⟩
 intro cx hn σ xs σ' hf r s R Q E hq
 obtain ⟨⟨av,σ1⟩,e1,e2⟩ := bS hf
 refine intM e2 fun n eM e2 => ?_
 subst eM
 refine ifM e2 fun hc e2 => ?_
 cases e2
 refine Call_ (bname hn hy hnone hbt hdb h1 R ?_) (hev _)
 refine PyProof.Rows.callWith_type1 ?_ (hst _) rfl
 refine args_cons (ha.run cx hn _ _ _ e1 r s R _ _ fun r1 s1 ca g1 R1 ra => args_nil ?_) (hst _)
 obtain ⟨ta,rfl⟩ := ra.int_inv
 refine range1_rows R1.F R1.N fun h' tk t1 u1 v1 hr F' N' _ => ?_
 have R2 := R1.fn F' N' (tk := tk)
 refine hq r1 _ _ (g1.trans .same) R2 fun elt target ifs scope pos cl use Q J hk h0 hys turn done ht => ?_
 have hlen : (rangeL n.toNat).length = (n - 0).toNat := by unfold rangeL; rw [List.length_map,List.length_range,Int.sub_zero]
 refine comp_range J (hhOf hn hand) hr (Int.le_refl 0) hc.1 hc.2 hk h0 hys (fun C D I i tk₀ ys m₁ news₁ io h tk no hi => ?_) (fun C D ys m₁ news₁ h tk no hJ hD F N => done C D ys m₁ news₁ h tk no (by rw [hlen]; exact hJ) hD F N) ht
 have hx : (rangeL n.toNat)[i]? = some (.int (i : Int)) := by
  unfold rangeL
  rw [List.getElem?_map,List.getElem?_range (by simp_all)]; rfl
 exact turn C D I i _ _ ys m₁ news₁ io h tk no hx (by rw [Int.zero_add]; exact .int _ _)
noncomputable def rangeL2 (a b : Int) : List AV := (List.range (b - a).toNat).map fun (i : Nat) => AV.int (a + (i : Int))
noncomputable def fRange2 (fa fb' : St → Option (AV × St)) (tg : AV → St → Option St) (fb : St → Option (AF × St)) (σ : St) : Option (AF × St) := fa σ >>= fun p => fb' p.2 >>= fun q => match p.1,q.1 with
 | .int a,.int b => if 0 ≤ a ∧ a ≤ b ∧ b ≤ 1000 then forS tg fb (fun _ => true) (rangeL2 a b) q.2 else none
 | _,_ => none
theorem ss_range2 {x y : Str} {px py pr pos : Pos} {tg : AV → St → Option St} {a b : PySem.Expr} {body : List Stmt} {fa fb' : St → Option (AV × St)} {fb : St → Option (AF × St)} (ha : SE ns a fa) (hb' : SE ns b fb') (hb : SB ns body fb) (hta : AS ns (.Name x px) tg) (hnd : ns.hand = true)
  (hy : ns.names.lookup y = some .globalImplicit) (hnone : ∀ P,nsIn (hd.heap_1 P) mainGlobals y = some none) (hbt : bootBuiltins y = some (.type "range")) (hdb : (y == ("__debug__" : Str)) = false) (h1 : y ≠ "__name__")
  (hev : ∀ env,eval (.Call (.Name y py) [a,b] [] pr) env = (do callWith pr (← eval (.Name y py) env) [] (backTo pr (starEach [a,b] env)) (backToKw pr (keywordEach [] env))) := by intro _; with_unfolding_all rfl)
  (hst : ∀ env,starEach [a,b] env = (false,eval a env) :: starEach [b] env := by intro _; with_unfolding_all rfl)
  (hst2 : ∀ env,starEach [b] env = (false,eval b env) :: starEach [] env := by intro _; with_unfolding_all rfl)
  (hs : ∀ env z,foldedSetIterable (.Call (.Name y py) [a,b] [] pr) env z = pure z := by intro _ _; rfl) :
  SS ns (.For (.Name x px) (.Call (.Name y py) [a,b] [] pr) body [] pos) (fRange2 fa fb' tg fb) := by
 refine ⟨?_⟩
 intro cx hn σ v σ' hf r s R Q E hq
 obtain ⟨⟨av,σ1⟩,e1,e2⟩ := bS hf
 obtain ⟨⟨bv,σ2⟩,e3,e4⟩ := bS e2
 refine intIntM e4 fun a' b' eM eM2 e4 => ?_
 subst eM
 subst eM2
 refine ifM e4 fun hc e4 => ?_
 refine For_stop (Call_ (bname hn hy hnone hbt hdb h1 R ?_) (hev _)) (hs _)
 refine PyProof.Rows.callWith_type1 ?_ (hst _) (by rw [hst2]; rfl)
 refine args_cons (ha.run cx hn _ _ _ e1 r s R _ _ fun r1 s1 ca g1 R1 ra => args_cons (hb'.run cx hn _ _ _ e3 r1 s1 R1 _ _ fun r2 s2 cb g2 R2 rb => args_nil ?_) (hst2 _)) (hst _)
 subst hn
 have hd' : cx.hand = true := hnd
 obtain ⟨ta,rfl⟩ := ra.int_inv
 obtain ⟨tb,rfl⟩ := rb.int_inv
 refine range2_rows R2.F R2.N fun h' tk t1 u1 v1 hr F' N' _ => Stop.mk ?_
 have R3 := R2.fn F' N' (tk := tk)
 obtain ⟨hsmall,hsize⟩ := small_range hc.1 hc.2.1 hc.2.2
 refine wpAny_pyIter_range hr hsmall ?_
 obtain ⟨fI,f0,fr⟩ := R3.fresh
 have W := Walks.range (prog := prg) (w := cx.w) (cx.hh hd') h'.objs.size a' 1 (b' - a').toNat
 have hlen : (rangeL2 a' b').length = (b' - a').toNat := by unfold rangeL2; rw [List.length_map,List.length_range]
 rw [← hlen] at W
 refine for_walk hb hta (fun _ _ _ _ _ _ _ h => wpAny_pure h) W (fun i v hi hv => ?_) (R3.keep (tk := tk) fun b o e => Heap.get?_push_of_some _ e) fI f0 fr ?_ (fun i h st => ⟨_,st⟩) rfl (fun i r' σ2 s' h R' g' c st e => e.symm.trans st) e4 fun r' s' cf g' R' rf => hq r' s' cf ((g1.trans g2).trans ((Go.same (cx := cx)).trans g')) R' rf
 ·obtain ⟨t,rfl⟩ := hv
  rw [hlen] at hi
  refine ⟨.int (a' + (i : Int)),?_,?_⟩
  ·unfold rangeL2; rw [List.getElem?_map,List.getElem?_range hi]; rfl
  ·rw [Int.mul_one]; exact .int _ _
 ·show IsRangeIter _ _ (a' + ((0 : Nat) : Int) * 1) (((rangeL2 a' b').length : Int) - ((0 : Nat) : Int)) 1
  have e1 : a' + ((0 : Nat) : Int) * 1 = a' := by simp
  have e2 : (((rangeL2 a' b').length : Nat) : Int) - ((0 : Nat) : Int) = (b' - a').toNat := by rw [hlen]; exact rfl
  rw [e1,e2,← hsize]
  exact Heap.get?_push_size _ rfl
end
noncomputable def enumO (it : Addr) (i : Nat) (old : Value) : Obj := { cls := .type "enumerate",dict := none,data := .fields #[.none,.bool false,.ref it,rawInt (i : Int),.none,old],slots := #[] }
noncomputable def tup2 (a b : Value) : Obj := { cls := .type "tuple",data := .seq #[a,b] }
section
variable {prog : Program} {w : World} {A : Around} {s : Shared} {env : Env} {h₀ : Heap} {Q : Flow → Shared → Prop} {E : Value → Shared → Prop}
end
section
variable {prog : Program} {w : World} {A : Around} {E : Value → Shared → Prop} {s : Shared}
theorem call_enumL {l : Addr} {items : Array Value} {n : Nat} {dct : Option Addr} {sl : Array (Option Value)} {Q : Value → Shared → Prop}
  (hl : s.heap.get? l = some { cls := .type "list",dict := dct,data := .seq items n,slots := sl })
  (h : ∀ h',IsEnum h' (s.heap.objs.size + 1) s.heap.objs.size 0 .none → h'.IsListIter s.heap.objs.size l 0 →
   (∀ b o,s.heap.get? b = some o → h'.get? b = some o) → Q (.ref (s.heap.objs.size + 1)) { s with heap := h' }) :
  wpAny (model prog w) A (call (.type "enumerate") [.ref l]) Q E s := by
 refine callType_new PySem.F.called_enumerate (by decide) (PySem.F.typeCall_enumerate_1 _) (PySem.F.newCall_enumerate_1 _) (fun obj => PySem.F.args_object_init_2 obj _) PySem.F.entry_enumerate_new
  (meets_enumerate_newL l items n dct sl) ⟨hl,?_⟩
 have hz : (s.heap.push { cls := .type "list_iterator",data := .fields #[.ref l,.int 0 0] }).objs.size = s.heap.objs.size + 1 := Heap.size_push ..
 show _ ∧ _
 rw [hz]
 have he : IsEnum ((s.heap.push { cls := .type "list_iterator",data := .fields #[.ref l,.int 0 0] }).push
   { cls := .type "enumerate",data := .fields #[.none,.bool false,.ref s.heap.objs.size,rawInt 0,.none,.none] }) (s.heap.objs.size + 1) s.heap.objs.size 0 .none := by
  have := Heap.get?_push_size (s.heap.push { cls := .type "list_iterator",data := .fields #[.ref l,.int 0 0] })
   (o := { cls := .type "enumerate",data := .fields #[.none,.bool false,.ref s.heap.objs.size,rawInt 0,.none,.none] }) rfl
  rw [hz] at this; exact this
 refine ⟨⟨_,he,rfl⟩,h _ he ⟨_,Heap.get?_push_of_some _ (Heap.get?_push_size _ rfl),rfl,rfl⟩ fun b o e => Heap.get?_push_of_some _ (Heap.get?_push_of_some _ e)⟩
end
noncomputable def enumG : Nat → List AV → List AV
 | _,[] => []
 | i,x :: xs => .tp [.int (i : Int),x] :: enumG (i + 1) xs
section
variable {ns : Sig} {cx : Cx} {r : Rt} {σ : St} {s : Shared}
noncomputable def Ap (cx : Cx) (r : Rt) (I : Addr) : Prop := I ≠ cx.L ∧ r.K.h0.get? I = none ∧ ∀ p ∈ r.mu cx ++ (r.K.fz ++ r.it),p.1 ≠ I
theorem Rel.moved (R : Rel cx r σ s) {wr : List Addr} (ha : ∀ b ∈ wr,Ap cx r b) {h' : Heap} {tk : Nat} (hk : ∀ b o,b ∉ wr → s.heap.get? b = some o → h'.get? b = some o) : Rel cx r σ { s with heap := h',toks := tk } := by
 refine ⟨R.toRelP,⟨R.F.ns.at' fun o e => hk _ o (fun q => (ha _ q).1 rfl) e,fun b o e => hk b o (fun q => by rw [(ha _ q).2.1] at e; cases e) (R.F.keep b o e),R.F.above⟩,fun p hp => ⟨hk _ _ (fun q => (ha _ q).2.2 p hp rfl) (R.N p hp).1,(R.N p hp).2⟩⟩
inductive EnI (cx : Cx) (r : Rt) (σ : St) (s : Shared) (Ea It l : Addr) (ta : AV → St → Option St) (fb : St → Option (AF × St)) (chk : St → Bool) (xs : List AV) (af : AF) (σ' : St) (j : Nat) (s' : Shared) : Prop
 | mk (r' : Rt) (σ1 : St) (i : Nat) (old : Value) : Rel cx r' σ1 s' → Go cx r σ s r' σ1 s' → Ap cx r' Ea → Ap cx r' It → s'.heap.get? Ea = some (enumO It i old) → s'.heap.IsListIter It l i → chk σ1 = true → forS ta fb chk (enumG i (xs.drop i)) σ1 = some (af,σ') → i ≤ xs.length → j = xs.length + 1 - i → EnI cx r σ s Ea It l ta fb chk xs af σ' j s'
theorem for_enum {es : List PySem.Expr} {k : Nat} {pos : Pos} {ta : AV → St → Option St} {body : List Stmt} {fb : St → Option (AF × St)} {chk : St → Bool} {xs : List AV} {vs : List Value} {l Ea It : Addr}
  (hb : SB cx.sig body fb) (hta : AS cx.sig (.Tuple es k pos) ta) (hh : cx.A.handled = none) (R : Rel cx r σ s) (hE : s.heap.get? Ea = some (enumO It 0 .none)) (hIt : s.heap.IsListIter It l 0) (hEI : Ea ≠ It) (hvs : RVs r.K r.γ vs xs)
  (aE : Ap cx r Ea) (aI : Ap cx r It) (hchk : chk σ = true) (hls : ∀ r' σ' s',Rel cx r' σ' s' → Go cx r σ s r' σ' s' → chk σ' = true → s'.heap.IsList l vs.toArray)
  {af : AF} {σ' : St} (hf : forS ta fb chk (enumG 0 xs) σ = some (af,σ')) {Q : Flow → Shared → Prop} {E : Value → Shared → Prop}
  (hq : PF cx r σ s af σ' Q) :
  codeAny (model prg cx.w) cx.A (.forLoop (.Tuple es k pos) (.ref Ea) body [] cx.env) (fun r s' => match r with | .ok f => Q f s' | .error e => cameBackBy (model prg cx.w) cx.A cx.env E e s') s := by
 refine codeAny_forLoop_any
  (EnI cx r σ s Ea It l ta fb chk xs af σ') ?_ (xs.length + 1)
  ⟨r,σ,0,.none,R,.refl,aE,aI,hE,hIt,hchk,hf,Nat.zero_le _,rfl⟩
 rintro j s' ⟨r',σ1,i,old,R1,g1,aE1,aI1,hE1,hIt1,hchk1,hf1,hi,rfl⟩
 have hl := hls _ _ _ R1 g1 hchk1
 cases hv : vs[i]? with
 | none =>
  have hin : i = xs.length := Nat.le_antisymm hi (by rw [← hvs.1]; simpa using hv)
  subst hin
  rw [List.drop_length] at hf1
  cases hf1
  refine wpAny_pyNext_enum_end hh hE1 hIt1 hl (by simpa using hv) fun h₁ he₁ => wpAny_execs_nil ?_
  exact hq r' _ _ (g1.trans .same) (R1.moved (wr := [It]) (tk := s'.toks) (fun b hb => by rw [List.mem_singleton.mp hb]; exact aI1) fun b o hb e => he₁ b o (fun q => hb (by rw [q]; exact .head _)) e) .next
 | some v =>
  have hlt : i < xs.length := by rw [← hvs.1]; exact (List.getElem?_eq_some_iff.mp hv).1
  have hx : xs[i]? = some (xs[i]'hlt) := List.getElem?_eq_getElem hlt
  have hd : enumG i (xs.drop i) = .tp [.int (i : Int),xs[i]'hlt] :: enumG (i + 1) (xs.drop (i + 1)) := by
   rw [List.drop_eq_getElem_cons hlt]; rfl
  rw [hd] at hf1
  obtain ⟨σ0,e0,hf1⟩ := bS hf1
  obtain ⟨⟨a,σ2⟩,e1,e2⟩ := bS hf1
  refine wpAny_pyNext_enum_item hE1 hIt1 hl (by simpa using hv) hEI fun h₁ heo hit₁ ht₁ hz₁ hk₁ => ?_
  refine wpAny_letOwnedTupleGo_enum heo fun h₂ he₂ hs₂ => hide fun g hg => ?_
  replace hs₂ : Heap.SameBut Ea h₁ h₂ := hs₂
  have hEH : Ea < s'.heap.objs.size := Heap.lt_size hE1
  have hIH : It < s'.heap.objs.size := by obtain ⟨o,ho,_⟩ := hIt1; exact Heap.lt_size ho
  have k2 : ∀ b o,b ∉ [Ea,It] → s'.heap.get? b = some o → h₂.get? b = some o := fun b o h e => by
   have n1 : b ≠ Ea := fun q => h (by rw [q]; exact .head _)
   have n2 : b ≠ It := fun q => h (by rw [q]; exact .tail _ (.head _))
   exact (hs₂.2 b n1).trans (hk₁ b o n1 n2 e)
  obtain ⟨io,hio,hc2,hd2⟩ := hit₁
  have hIt2 : h₂.get? It = some io := (hs₂.2 It (Ne.symm hEI)).trans hio
  have hT2 : h₂.get? s'.heap.objs.size = some (tup2 (.int i s'.toks) v) := (hs₂.2 _ (Nat.ne_of_gt hEH)).trans ht₁
  have hE2 : h₂.get? Ea = some (enumO It (i + 1) v) := he₂
  have Rm : Rel cx r' σ1 { s' with heap := h₂,toks := s'.toks + 1 } := R1.moved (wr := [Ea,It]) (fun b hb => by
   rcases List.mem_cons.mp hb with rfl | hb
   ·exact aE1
   ·rw [List.mem_singleton.mp hb]; exact aI1) k2
  obtain ⟨fI,f0,fr⟩ := R1.fresh
  have lowT : ∀ p ∈ r'.mu cx ++ (r'.K.fz ++ r'.it),p.1 < s'.heap.objs.size := fun p hp => Heap.lt_size (R1.N p hp).1
  obtain ⟨Rf,gf⟩ := Rm.fzn (a := s'.heap.objs.size) (o := tup2 (.int i s'.toks) v) (tk := s'.toks + 1) Rm.F (fun p hp => by
   rcases List.mem_cons.mp hp with rfl | hp
   ·exact ⟨hT2,fI,f0⟩
   ·exact Rm.N p hp) lowT
  have apT : ∀ {I : Addr},I < s'.heap.objs.size → Ap cx r' I → Ap cx { r' with K := { r'.K with fz := (s'.heap.objs.size,tup2 (.int i s'.toks) v) :: r'.K.fz } } I := fun hI ⟨x,y,z⟩ => ⟨x,y,fun p hp => by
   rcases mA hp with hp | hp
   ·exact z p (mL _ hp)
   ·rcases mA hp with hp | hp
    ·rcases List.mem_cons.mp hp with rfl | hp
     ·exact Nat.ne_of_gt hI
     ·exact z p (mR _ (mL _ hp))
    ·exact z p (mR _ (mR _ hp))⟩
  have bI := apT hIH aI1
  have bE := apT hEH aE1
  have R2a := Rf.hold (tk := s'.toks + 1) bI.1 bI.2.1 bI.2.2 (fun b o _ e => e) hIt2
  have R2 := R2a.hold (tk := s'.toks + 1) bE.1 bE.2.1 (fun p hp => by
   rcases mA hp with hp | hp
   ·exact bE.2.2 p (mL _ hp)
   ·rcases mA hp with hp | hp
    ·exact bE.2.2 p (mR _ (mL _ hp))
    ·rcases List.mem_cons.mp hp with rfl | hp
     ·exact Ne.symm hEI
     ·exact bE.2.2 p (mR _ (mR _ hp))) (fun b o _ e => e) hE2
  have hry := ((hvs.2 i v _ hv hx).later g1.toLater).later gf.toLater
  refine hg ?_
  clear hg g
  refine hta.run cx rfl _ _ _ e0 _ _ (.ref s'.heap.objs.size) R2 (.tp _ [.int i s'.toks,v] _ (.inr ⟨0,.head _⟩) rfl fun j a b ha hb => ?_) _ _ fun r3 s3 g3 R3 => ?_
  ·match j,ha,hb with
   | 0,ha,hb => cases ha; cases hb; exact .int _ _
   | 1,ha,hb => cases ha; cases hb; exact hry
  refine hb.run cx rfl _ _ _ e1 r3 s3 R3 _ _ fun r4 s4 cf g4 R4 rf => hide fun g hg => ?_
  have g34 := g3.trans g4
  have hit : r4.it = (Ea,enumO It (i + 1) v) :: (It,io) :: r'.it := g34.it
  have hr4 : r4 = { r4 with it := (Ea,enumO It (i + 1) v) :: (It,io) :: r'.it } := by rw [← hit]
  rw [hr4] at R4
  obtain ⟨R5,h5,q1,q2,q3⟩ := R4.drop (fun p hp => by
   rcases List.mem_cons.mp hp with rfl | hp
   ·exact Ne.symm hEI
   ·exact aE1.2.2 p (mR _ (mR _ hp)))
  obtain ⟨R6,h6,q4,q5,q6⟩ := Rel.drop (r := r4) R5 (fun p hp => aI1.2.2 p (mR _ (mR _ hp)))
  have g6 : Go cx r' σ1 s' { r4 with it := r'.it } σ2 s4 := by
   have q := (g34.reit (it' := r'.it) (r := { r' with K := { r'.K with fz := (s'.heap.objs.size,tup2 (.int i s'.toks) v) :: r'.K.fz } }) (it := (Ea,enumO It (i + 1) v) :: (It,io) :: r'.it))
   have qq := gf.trans q
   exact ⟨⟨qq.K,qq.γ,qq.tn⟩,⟨qq.ver,rfl,qq.cs⟩,cx.sT _ _ _ (cx.sS s' h₂ (s'.toks + 1)) qq.S,qq.os⟩
  have g16 := g1.trans g6
  have aE6 : Ap cx { r4 with it := r'.it } Ea := ⟨q1,q2,fun p hp => by
   rcases mA hp with hp | hp
   ·exact q3 p (mL _ hp)
   ·rcases mA hp with hp | hp
    ·exact q3 p (mR _ (mL _ hp))
    ·exact q3 p (mR _ (mR _ (.tail _ hp)))⟩
  have fin : chk σ2 = true → forS ta fb chk (enumG (i + 1) (xs.drop (i + 1))) σ2 = some (af,σ') → ∃ m,m < xs.length + 1 - i ∧ EnI cx r σ s Ea It l ta fb chk xs af σ' m s4 := fun c hf2 =>
   ⟨xs.length + 1 - (i + 1),by exact ar1 ‹_›,_,σ2,i + 1,v,R6,g16,aE6,⟨q4,q5,q6⟩,h5,⟨io,h6,hc2,hd2⟩,c,hf2,hlt,rfl⟩
  refine hg ?_
  clear hg g
  cases rf with
  | next =>
   refine ifM e2 fun _ e2 => ?_
   exact fin (by assumption) e2
  | cont =>
   refine ifM e2 fun _ e2 => ?_
   exact fin (by assumption) e2
  | brk => cases e2; exact hq _ s4 _ g16 R6 .next
  | ret w x h => cases e2; exact hq _ s4 _ g16 R6 (.ret w x h)
noncomputable def listI (v : AV) (σ : St) : Option (List AV × (St → Bool)) := match v with
 | .fl xs => some (xs,fun _ => true)
 | .ref n => (match σ.heap[n]? with
  | some (.list xs,k) => some (xs,verAt n k)
  | _ => none)
 | _ => none
noncomputable def fEnum (fa : St → Option (AV × St)) (ta : AV → St → Option St) (fb : St → Option (AF × St)) (σ : St) : Option (AF × St) := fa σ >>= fun p => listI p.1 p.2 >>= fun q => forS ta fb q.2 (enumG 0 q.1) p.2
set_option tactic.hygienic true in
theorem ss_enum {es : List PySem.Expr} {k : Nat} {tp : Pos} {y : Str} {py pr pos : Pos} {ta : AV → St → Option St} {a : PySem.Expr} {body : List Stmt} {fa : St → Option (AV × St)} {fb : St → Option (AF × St)} (ha : SE ns a fa) (hb : SB ns body fb) (hta : AS ns (.Tuple es k tp) ta) (hnd : ns.hand = true)
  (hy : ns.names.lookup y = some .globalImplicit) (hnone : ∀ P,nsIn (hd.heap_1 P) mainGlobals y = some none) (hbt : bootBuiltins y = some (.type "enumerate")) (hdb : (y == ("__debug__" : Str)) = false) (h1 : y ≠ "__name__")
  (hev : ∀ env,eval (.Call (.Name y py) [a] [] pr) env = (do callWith pr (← eval (.Name y py) env) [] (backTo pr (starEach [a] env)) (backToKw pr (keywordEach [] env))) := by intro _; with_unfolding_all rfl)
  (hst : ∀ env,starEach [a] env = (false,eval a env) :: starEach [] env := by intro _; with_unfolding_all rfl)
  (hs : ∀ env z,foldedSetIterable (.Call (.Name y py) [a] [] pr) env z = pure z := by intro _ _; rfl) :
  SS ns (.For (.Tuple es k tp) (.Call (.Name y py) [a] [] pr) body [] pos) (fEnum fa ta fb) := by
 refine ⟨?_⟩
 intro cx hn σ v σ' hf r s R Q E hq
 obtain ⟨⟨av,σ1⟩,e1,e2⟩ := bS hf
 obtain ⟨⟨xs,chk⟩,e3,e4⟩ := bS e2
 refine For_stop (Call_ (bname hn hy hnone hbt hdb h1 R ?_) (hev _)) (hs _)
 refine PyProof.Rows.callWith_type1 ?_ (hst _) rfl
 refine args_cons (ha.run cx hn _ _ _ e1 r s R _ _ fun r1 s1 ca g1 R1 ra => args_nil ?_) (hst _)
 subst hn
 have hh : cx.A.handled = none := cx.hh hnd
 obtain ⟨fI,f0,fr⟩ := R1.fresh
 have hLT : cx.L < s1.heap.objs.size := R1.F.ns.lt
 have go : ∀ (b : Addr) (vs : List Value),ca = .ref b → IsLd s1.heap b vs → RVs r1.K r1.γ vs xs → chk σ1 = true → (∀ r' σ' s',Rel cx r' σ' s' → Go cx r1 σ1 s1 r' σ' s' → chk σ' = true → s'.heap.IsList b vs.toArray) →
   wpAny (model prg cx.w) cx.A (call (.type "enumerate") [ca]) (fun x s₁ => Stop (wpAny (model prg cx.w) cx.A (pyIter x) (fun it s₂ => codeAny (model prg cx.w) cx.A (.forLoop (.Tuple es k tp) it body [] cx.env) (fun r s' => match r with | .ok f => Q f s' | .error e => cameBackBy (model prg cx.w) cx.A cx.env E e s') s₂) E s₁)) E s1 := by
  rintro b vs rfl ⟨⟨c,db,d,sb⟩,ho,hc,⟨n,hd⟩,_⟩ hvs hck hls
  dsimp only at hc hd
  subst hc hd
  refine call_enumL ho fun h' hE hIt hk => Stop.mk ?_
  refine wpAny_pyIter_enum hE ?_
  have R2 : Rel cx r1 σ1 { s1 with heap := h' } := R1.keep (tk := s1.toks) hk
  have nones : ∀ {I : Addr},s1.heap.objs.size ≤ I → Ap cx r1 I := fun {I} hI => ⟨Nat.ne_of_gt (Nat.lt_of_lt_of_le hLT hI),by
   cases q : r1.K.h0.get? I with
   | none => rfl
   | some o => exact absurd (Heap.lt_size (R1.F.keep _ _ q)) (Nat.not_lt.mpr hI),fun p hp e => by
   have := Heap.lt_size (R1.N p hp).1
   rw [e] at this
   exact absurd this (Nat.not_lt.mpr hI)⟩
  refine for_enum hb hta hh R2 hE hIt (Nat.ne_of_gt (Nat.lt_succ_self _)) hvs (nones (Nat.le_succ _)) (nones (Nat.le_refl _)) hck (fun r' σ' s' R' g' c => hls r' σ' s' R' ((Go.same (cx := cx)).trans g') c) e4 fun r' s' cf g' R' rf => hq r' s' cf (g1.trans ((Go.same (cx := cx)).trans g')) R' rf
 dsimp only at e3
 unfold listI at e3
 split at e3
 ·cases e3
  obtain ⟨b,vs,rfl,hk,hlen,hall⟩ := ra.fl_inv
  exact go b vs rfl (R1.kld hk) ⟨hlen,hall⟩ rfl fun r' σ' s' R' g' c => R'.kl (hk.le g'.K)
 ·rename_i n
  refine listM e3 fun ys kk hh1 e3 => ?_
  cases e3
  obtain ⟨b,rfl,hγ⟩ := ra.ref_inv
  obtain ⟨es',h5,h6⟩ := R1.idx hγ hh1
  obtain ⟨vs,nn,rfl,h7⟩ := h6.list_inv
  exact go b vs rfl ⟨_,R1.get h5 (.head _),rfl,⟨nn,rfl⟩,rfl⟩ h7 (verAt_self hh1) fun r' σ' s' R' g' c => ⟨_,R'.get ((sameOs g'.toVer hh1 c).trans h5) (.head _),rfl,nn,rfl⟩
 ·cases e3
end
noncomputable def lexLt : List Int → List Int → Bool
 | [],[] => false
 | [],_ :: _ => true
 | _ :: _,[] => false
 | a :: k,b :: l => if a == b then lexLt k l else decide (a < b)
section
open MeetsSeq3
theorem lt_loopL (l b : Addr) (vs us : List Value) (k m : List Int) (hk : IntsAre vs k) (hm : IntsAre us m) (n n2 : Nat) (dd dd2 : Option Addr) (sl sl2 : Array (Option Value)) (j : Nat) :
  ∀ i : Nat,vs.length - i = j → i ≤ vs.length → Meets (Builtin.«list.__eq__.loop» ⟨[.ref l,.ref b,rawInt i,rawInt 0],[]⟩)
   (fun A R s => s.heap.get? l = some { cls := .type "list",dict := dd,data := .seq vs.toArray n,slots := sl } ∧ s.heap.get? b = some { cls := .type "list",dict := dd2,data := .seq us.toArray n2,slots := sl2 } ∧
    R (.ok (.ret (.bool (lexLt (k.drop i) (m.drop i))))) s) := by
 have lk := ints_len hk
 have lm := ints_len hm
 induction j with
 | zero =>
  intro i hj hi prog w A R s h
  obtain ⟨hp,g,d,tk,os⟩ := s; obtain ⟨hl,hb,h⟩ := h
  have hie : i = vs.length := by exact ar3 ‹_› ‹_›
  wp_walk using wpAny_loadPart' hl,wpAny_loadPart' hb
  have hi1 : vs.toArray[((i : Nat) : Int).toNat]? = none := by simp; lia
  rw [hi1]
  wp_walk using wpAny_loadPart' hl,wpAny_loadPart' hb
  have hd : k.drop i = [] := by simp; lia
  rw [hd] at h
  show R (.ok (.ret (.bool (decide (vs.toArray.size < us.toArray.size))))) _
  have e : lexLt [] (m.drop i) = decide (vs.toArray.size < us.toArray.size) := by
   rw [List.size_toArray,List.size_toArray]
   by_cases q : vs.length < us.length
   ·have : m.drop i = m[i]'(by lia) :: m.drop (i + 1) := List.drop_eq_getElem_cons (by omega)
    rw [this]; simp [lexLt,q]
   ·have : m.drop i = [] := by simp; lia
    rw [this]; simp [lexLt,q]
  rw [← e]; exact h
 | succ j ih =>
  intro i hj hi prog w A R s h
  obtain ⟨hp,g,d,tk,os⟩ := s; obtain ⟨hl,hb,h⟩ := h
  wp_walk using wpAny_loadPart' hl,wpAny_loadPart' hb
  have hlt : i < vs.length := ar4 hj
  have hik : i < k.length := lk ▸ hlt
  have hi1 : vs.toArray[((i : Nat) : Int).toNat]? = some vs[i] := by simp [hlt]
  have hdk : k.drop i = k[i]'hik :: k.drop (i + 1) := List.drop_eq_getElem_cons hik
  rw [hi1]
  by_cases h2 : i < us.length
  ·have hi2 : us.toArray[((i : Nat) : Int).toNat]? = some us[i] := by simp [h2]
   have him : i < m.length := lm ▸ h2
   have hdm : m.drop i = m[i]'him :: m.drop (i + 1) := List.drop_eq_getElem_cons him
   obtain ⟨t,e1⟩ := ints_getD hk (j := i) (v := vs[i]) (List.getElem?_eq_getElem hlt)
   obtain ⟨t',e2⟩ := ints_getD hm (j := i) (v := us[i]) (List.getElem?_eq_getElem h2)
   have g1 : k.getD i 0 = k[i]'hik := by rw [List.getD_eq_getElem?_getD,List.getElem?_eq_getElem hik]; rfl
   have g2 : m.getD i 0 = m[i]'him := by rw [List.getD_eq_getElem?_getD,List.getElem?_eq_getElem him]; rfl
   rw [hi2]
   rw [hdk,hdm] at h
   rw [← g1,← g2] at h
   replace h : R (.ok (.ret (.bool (if (k.getD i 0 == m.getD i 0) = true then lexLt (k.drop (i + 1)) (m.drop (i + 1)) else decide (k.getD i 0 < m.getD i 0))))) _ := h
   have hc : ((i : Int) + 1) = ((i + 1 : Nat) : Int) := by push_cast; rfl
   rw [e1,e2]
   refine wpAny_bind (wpAny_eqBool_int ?_)
   cases hb' : (k.getD i 0 == m.getD i 0) with
   | true =>
    rw [hb',if_pos rfl] at h
    wp_walk
    rw [hc]
    exact ⟨plainId_quiet plain_eq_loop _,codeAny_builtin entry_eq_loop (by
     rw [Around.under_plainId plain_eq_loop _]
     exact ih (i + 1) (ar2 hj) hlt prog w A R _ ⟨hl,hb,h⟩)⟩
   | false =>
    rw [hb',if_neg (by decide)] at h
    wp_walk using wpAny_loadPart' hl,wpAny_loadPart' hb
    rw [hi1,hi2,e1,e2]
    refine wpAny_bind (PyProof.Rows.lt_int ?_)
    exact wpAny_pure h
  ·have hi2 : us.toArray[((i : Nat) : Int).toNat]? = none := by simp; omega
   have hdm : m.drop i = [] := by simp; omega
   rw [hdk,hdm] at h
   rw [hi2]
   wp_walk using wpAny_loadPart' hl,wpAny_loadPart' hb
   show R (.ok (.ret (.bool (decide (vs.toArray.size < us.toArray.size))))) _
   have e : (decide (vs.toArray.size < us.toArray.size)) = false := by rw [List.size_toArray,List.size_toArray]; simp; omega
   rw [e]; exact h
theorem list_ltL (l b : Addr) (vs us : List Value) (k m : List Int) (hk : IntsAre vs k) (hm : IntsAre us m) (n n2 : Nat) (dd dd2 : Option Addr) (sl sl2 : Array (Option Value)) :
  Meets (Builtin.«list.__lt__» ⟨[.ref l,.ref b],[]⟩)
   (fun A R s => s.heap.get? l = some { cls := .type "list",dict := dd,data := .seq vs.toArray n,slots := sl } ∧ s.heap.get? b = some { cls := .type "list",dict := dd2,data := .seq us.toArray n2,slots := sl2 } ∧
    R (.ok (.ret (.bool (lexLt k m)))) s) := by
 intro prog w A R s h
 obtain ⟨hp,g,d,tk,os⟩ := s; obtain ⟨hl,hb,h⟩ := h
 have f3 := AutoSeq1.sub_list_list
 wp_walk using wpAny_loadPart' hl,wpAny_loadPart' hb
 exact ⟨plainId_quiet plain_eq_loop _,codeAny_builtin entry_eq_loop (by
  rw [Around.under_plainId plain_eq_loop _]
  exact lt_loopL l b vs us k m hk hm n n2 dd dd2 sl sl2 _ 0 rfl (Nat.zero_le _) prog w A R _ ⟨hl,hb,h⟩)⟩
end
section
variable {prog : Program} {w : World} {A : Around} {E : Value → Shared → Prop} {s : Shared}
theorem keyLt_lists {a b : Addr} {vs us : List Value} {k m : List Int} {Q : Bool → Shared → Prop} (hl : s.heap.IsList a vs.toArray) (hk : IntsAre vs k) (hb : s.heap.IsList b us.toArray) (hm : IntsAre us m) (hu : A.units < cLine) (h : Q (lexLt k m) s) :
  wpAny (model prog w) A (keyLt' oneType' (.ref a) (.ref b)) Q E s := by
 obtain ⟨⟨c1,d1,t1,s1⟩,ho,hc,n1,hd⟩ := id hl
 obtain ⟨⟨c2,d2,t2,s2⟩,ho2,hc2,n2,hd2⟩ := id hb
 dsimp only at hc hd hc2 hd2
 subst hc hd hc2 hd2
 rw [keyLt'_oneType,oneLt'_eq]
 simp only [if_true]
 refine wpAny_bind (wpAny_cRoomFor hu ?_)
 refine wpAny_bind (wpAny_callSpecialIfBound?_slot hl.typeIs PySem.F.slot_list_lt ?_)
 refine call_meets PySem.F.slot_list_lt hl.typeIs PySem.F.entry_list_lt (PySem.F.args_list_lt_2 _ _) (list_ltL a b vs us k m hk hm n1 n2 d1 d2 s1 s2) ⟨ho,ho2,?_⟩
 exact wpAny_truthy_bool h
end
noncomputable def kasRun {α : Type} (n : Nat) (lt : Nat → Nat → Bool) : KasT α → Option α
 | .ret a => some a
 | .ask i j k => if i < n ∧ j < n then kasRun n lt (k (lt i j)) else none
theorem kasRun_wp {α : Type} {cmp : Nat → Nat → (Bool → Shared → Prop) → Shared → Prop} {n : Nat} {lt : Nat → Nat → Bool} {s : Shared} (h : ∀ i j,i < n → j < n → ∀ C : Bool → Shared → Prop,C (lt i j) s → cmp i j C s) {Q : α → Shared → Prop} : ∀ (t : KasT α) (a : α),kasRun n lt t = some a → Q a s → t.kasWp cmp Q s
 | .ret _,_,e,q => by cases e; exact q
 | .ask i j k,a,e,q => by
  refine ifM e fun hc e => ?_
  exact h i j hc.1 hc.2 _ (kasRun_wp h (k (lt i j)) a e q)
section
variable {prog : Program} {w : World} {A : Around} {E : Value → Shared → Prop} {s : Shared} {h₀ : Heap} {L : Addr} {m : Str → Option Value} {news : List (Addr × Obj)}
theorem sort_one {a : Addr} {v : Value} {n : Nat} {P : PySem.Fin → Shared → Prop} (F : Fr h₀ L s.heap m) (N : News h₀ L s.heap news) (ho : s.heap.get? a = some (seqObj "list" [v].toArray n)) (haL : a ≠ L) (ha0 : h₀.get? a = none) (hna : ∀ p ∈ news,p.1 ≠ a)
  (h : ∀ h' c,Fr h₀ L h' m → News h₀ L h' ((a,listOf [v].toArray c) :: news) → P (.done (.ret .none)) { s with heap := h' }) :
  wpAny (model prog w) A (Builtin.«list.sort» ⟨[.ref a],[]⟩) P E s := by
 have ha : a < s.heap.objs.size := Heap.lt_size ho
 have s1 := Heap.SameBut.update s.heap a (Obj.mapSeq fun _ => (#[] : Array Value))
 obtain ⟨e1,ho1⟩ : ∃ e1,(s.heap.update a (Obj.mapSeq fun _ => (#[] : Array Value))).get? a = some (seqObj "list" #[] e1) := ⟨_,get?_update_seq ho fun _ => #[]⟩
 have F3 : Fr h₀ L (((s.heap.update a (Obj.mapSeq fun _ => (#[] : Array Value))).push (seqObj "tuple" [v].toArray 0)).push (seqObj "list" #[] 0)) m := ((kas_fr F s1 haL ha0).push _).push _
 have N2 : News h₀ L (((s.heap.update a (Obj.mapSeq fun _ => (#[] : Array Value))).push (seqObj "tuple" [v].toArray 0)).push (seqObj "list" #[] 0)) news :=
  (kas_news N s1 hna).grown fun b x e => Heap.get?_push_of_some _ (Heap.get?_push_of_some _ e)
 have na := Heap.get?_push_of_some (seqObj "list" #[] 0) (Heap.get?_push_of_some (seqObj "tuple" [v].toArray 0) ho1)
 rw [list_sort_plain]
 refine wpAny_bind (listItems_at ho rfl ?_)
 refine wpAny_bind (listUpdate_at ho rfl ?_ (by rw [sizeLine_eq]; simp) (Nat.zero_le _))
 refine wpAny_bind (seqEpoch_at ho1 rfl ?_)
 refine wpAny_bind (wpAny_newTuple ?_ (by rw [sizeLine_eq]; simp))
 refine wpAny_bind (wpAny_newList ?_ (Nat.zero_le _))
 refine wpAny_holding ?_
 show wpAny (model prog w) A _ P E { s with heap := ((s.heap.update a (Obj.mapSeq fun _ => (#[] : Array Value))).push (seqObj "tuple" [v].toArray 0)).push (seqObj "list" #[] 0) }
 dsimp only
 have hn2 : [v].toArray.size < 2 := by simp
 rw [if_pos hn2,if_pos hn2]
 refine wpAny_bind (wpAny_pure ?_)
 refine wpAny_bind (wpAny_pure ?_)
 dsimp only
 have hout : (arrOf (SortSt.mk' general' ([v].toArray.zip [v].toArray) #[] 7 none)).map (·.2) = [v].toArray := by
  show ([v].toArray.zip [v].toArray).map (·.2) = _
  simp
 rw [hout]
 have s2 := Heap.SameBut.update (((s.heap.update a (Obj.mapSeq fun _ => (#[] : Array Value))).push (seqObj "tuple" [v].toArray 0)).push (seqObj "list" #[] 0)) a (Obj.mapSeq fun _ => [v].toArray)
 obtain ⟨c2,hc2⟩ : ∃ c2,((((s.heap.update a (Obj.mapSeq fun _ => (#[] : Array Value))).push (seqObj "tuple" [v].toArray 0)).push (seqObj "list" #[] 0)).update a (Obj.mapSeq fun _ => [v].toArray)).get? a = some (seqObj "list" [v].toArray c2) := ⟨_,get?_update_seq na fun _ => [v].toArray⟩
 refine wpAny_bind (seqEpoch_at na rfl ?_)
 refine wpAny_bind (listUpdate_at na rfl ?_ (Nat.zero_le _) (by rw [sizeLine_eq]; simp))
 simp only [bne_self_eq_false,Bool.false_eq_true,if_false]
 refine wpAny_pure (h _ c2 (kas_fr F3 s2 haL ha0) fun p hp => ?_)
 rcases List.mem_cons.mp hp with rfl | hp
 ·exact ⟨hc2,haL,ha0⟩
 ·exact kas_news N2 s2 hna p hp
theorem sorted_one {l : Addr} {v : Value} {Q : Value → Shared → Prop} (F : Fr h₀ L s.heap m) (N : News h₀ L s.heap news) (hl : s.heap.IsList l [v].toArray)
  (h : ∀ D c h',Fr h₀ L h' m → News h₀ L h' ((D,listOf [v].toArray c) :: news) → (∀ q ∈ news,q.1 < D) → Q (.ref D) { s with heap := h' }) :
  wpAny (model prog w) A (call (.builtin "sorted") [.ref l]) Q E s := by
 refine Calls.call_function_entry kind_sorted plain_sorted entry_sorted (args_sorted1 _) ?_
 unfold Builtin.«sorted»
 refine wpAny_bind (m := checkCount "sorted" 1 1 _) (wpAny_pure ?_)
 refine wpAny_bind (collect_list hl ?_ (by rw [sizeLine_eq]; simp))
 refine wpAny_bind (wpAny_newList ?_ (by rw [sizeLine_eq]; simp))
 have hsz : ((s.heap.push (seqObj "list" #[] 0)).update s.heap.objs.size (Obj.mapSeq (· ++ [v].toArray))).objs.size = s.heap.objs.size + 1 := by
  rw [Heap.size_update,size_push']
 have hoL : (((s.heap.push (seqObj "list" #[] 0)).update s.heap.objs.size (Obj.mapSeq (· ++ [v].toArray))).push (seqObj "list" [v].toArray 0)).get? (s.heap.objs.size + 1) = some (seqObj "list" [v].toArray 0) := by
  rw [← hsz]; exact Heap.get?_push_size _ rfl
 have keep : ∀ b o,s.heap.get? b = some o → (((s.heap.push (seqObj "list" #[] 0)).update s.heap.objs.size (Obj.mapSeq (· ++ [v].toArray))).push (seqObj "list" [v].toArray 0)).get? b = some o := fun b o q => by
  have hlt : b < s.heap.objs.size := Heap.lt_size q
  rw [Heap.get?_push_ne _ _ _ (by rw [hsz]; exact Nat.ne_of_lt (Nat.lt_succ_of_lt hlt)),Heap.get?_update_ne _ _ _ _ (Nat.ne_of_lt hlt),Heap.get?_push_ne _ _ _ (Nat.ne_of_lt hlt)]
  exact q
 have hL : L < s.heap.objs.size := F.ns.lt
 show wpAny _ _ _ _ _ { s with heap := ((s.heap.push (seqObj "list" #[] 0)).update s.heap.objs.size (Obj.mapSeq (· ++ [v].toArray))).push (seqObj "list" [v].toArray 0) }
 rw [hsz]
 refine wpAny_bind (wpAny_holding (wpAny_call_entry slot_list_sort ⟨_,hoL,rfl⟩ entry_list_sort ?body (args_list_sort _)))
 case body =>
  refine sort_one (s := { s with heap := ((s.heap.push (seqObj "list" #[] 0)).update s.heap.objs.size (Obj.mapSeq (· ++ [v].toArray))).push (seqObj "list" [v].toArray 0) })
   (F.kept keep) (N.grown keep) hoL (Nat.ne_of_gt (Nat.lt_succ_of_lt hL)) (Heap.get?_none_of_le (Nat.le_trans F.above (Nat.le_succ_of_le (Nat.le_of_lt hL))))
   (fun p hp => Nat.ne_of_lt (Nat.lt_succ_of_lt (Heap.lt_size (N p hp).1))) fun h' c F' N' => ⟨_,rfl,wpAny_pure ⟨_,rfl,?_⟩⟩
  exact h _ c h' F' N' fun q hq => Nat.lt_succ_of_lt (Heap.lt_size (N q hq).1)
end
noncomputable def sortP (kss : List (List Int)) : Option (List Nat) := (kasRun kss.length (fun i j => lexLt (kss.getD i []) (kss.getD j [])) (kas_sort kss.length)).map (·.toList)
noncomputable def sortV (o : AV) (σ : St) : Option (AV × St) := match o with
 | .fl xs => toRows xs >>= fun kss => if kss.length = 1 then some (.fl xs,σ) else if 2 ≤ kss.length ∧ kss.length < 64 then sortP kss >>= fun p => some (.fl (p.map fun i => xs.getD i .none),σ) else none
 | _ => none
section
variable {ns : Sig} {cx : Cx} {r : Rt} {σ : St} {s : Shared}
theorem rvs_pick {K : Kno} {γ : List Addr} {vs : List Value} {xs : List AV} (h : RVs K γ vs xs) (l : List Nat) : RVs K γ (l.map fun i => vs.getD i .none) (l.map fun i => xs.getD i .none) := by
 refine ⟨by rw [List.length_map,List.length_map],fun i v x hv hx => ?_⟩
 rw [List.getElem?_map] at hv hx
 obtain ⟨k,hk,rfl⟩ := Option.map_eq_some_iff.mp hv
 rw [hk] at hx
 obtain rfl := Option.some.inj hx
 show RV K γ (vs.getD k .none) (xs.getD k .none)
 rw [List.getD_eq_getElem?_getD,List.getD_eq_getElem?_getD]
 by_cases hl : k < xs.length
 ·have hv : k < vs.length := h.1 ▸ hl
  rw [List.getElem?_eq_getElem hl,List.getElem?_eq_getElem hv]
  exact h.2 k _ _ (List.getElem?_eq_getElem hv) (List.getElem?_eq_getElem hl)
 ·rw [List.getElem?_eq_none (Nat.le_of_not_lt hl),List.getElem?_eq_none (h.1 ▸ Nat.le_of_not_lt hl)]
  exact .none
theorem op_sorted : Op0 ns "sorted" sortV := by
 intro cx r σ s ov co v σ' hn R ro h Q E hq
 refine flsM h fun xs eM h => ?_
 subst eM
 obtain ⟨kss,e1,e2⟩ := bS h
 obtain ⟨a,vs,rfl,hk,hlen,hall⟩ := ro.fl_inv
 obtain ⟨l1,g1⟩ := toRows_get e1 ⟨hlen,hall⟩
 clear h
 by_cases h1 : kss.length = 1
 ·rw [if_pos h1] at e2
  replace hq := hq.eq e2
  obtain ⟨v,rfl⟩ := List.length_eq_one_iff.mp (l1.trans h1)
  refine sorted_one R.F R.N (R.kl hk) fun D c h' F' N' lD => ?_
  obtain ⟨R',g'⟩ := R.fzn (tk := s.toks) F' N' lD
  have rv : RVs r.K r.γ [v] xs := ⟨hlen,hall⟩
  have rv2 := rv.later g'.toLater
  exact hq _ _ _ g' R' (.fl _ [v] xs (.inr ⟨c,.head _⟩) rv2.1 rv2.2)
 ·rw [if_neg h1] at e2
  refine ifM e2 ?_
  clear e2
  intro h2 e2
  obtain ⟨p,e3,e4⟩ := bS e2
  replace hq := hq.eq e4
  obtain ⟨q,e5,rfl⟩ := map_some e3
  have hu : cx.A.in1.in1.units < cLine := by
   have h1 := cx.hk.2
   have h3 := cx.hlim
   have h4 : cLine = 9900 := rfl
   show cx.A.units + 1 + 1 < cLine
   exact ar7 ‹_› ‹_› ‹_›
  refine kas_sorted (T := .type "list") R.F R.N (R.kl hk) (by lia) (by lia) (fun h F' N' v hv => ?_) (by decide) fun D e1 h' F' N' lD => ?_
  ·obtain ⟨i,hi⟩ := List.mem_iff_getElem?.mp hv
   obtain ⟨b,us,rfl,hb,_⟩ := g1 i v hi
   have hb' : h.IsList b us.toArray := by
    rcases hb with ⟨_,q⟩ | ⟨n,q⟩
    ·exact (q.at fun o e => F'.keep _ _ e).list
    ·exact ⟨_,(N' _ (mR _ (mL _ q))).1,rfl,n,rfl⟩
   obtain ⟨o,ho,hc,_⟩ := hb'
   intro A Q E s' k q
   exact wpAny_typeOf ⟨o,k _ _ ho,hc⟩ q
  ·have lists : ∀ i,i < kss.length → ∃ b us,vs.getD i .none = .ref b ∧ h'.IsList b us.toArray ∧ IntsAre us (kss.getD i []) := fun i hi => by
    have hv : vs[i]? = some (vs[i]'(by lia)) := List.getElem?_eq_getElem _
    obtain ⟨b,us,e,hb,hI⟩ := g1 i _ hv
    refine ⟨b,us,by rw [List.getD_eq_getElem?_getD,hv]; exact e,?_,hI⟩
    rcases hb with ⟨_,q⟩ | ⟨n,q⟩
    ·exact (q.at fun o e => F'.keep _ _ e).list
    ·exact ⟨_,(N' _ (.tail _ (mR _ (mL _ q)))).1,rfl,n,rfl⟩
   refine kasRun_wp (n := kss.length) (lt := fun i j => lexLt (kss.getD i []) (kss.getD j [])) (fun i j hi hj C hC => ?_) _ q (by rw [l1]; exact e5) ?_
   ·obtain ⟨b,us,e,hb,hI⟩ := lists i hi
    obtain ⟨b2,us2,e2,hb2,hI2⟩ := lists j hj
    unfold kas_ask
    rw [e,e2]
    exact keyLt_lists hb hI hb2 hI2 hu hC
   ·refine KasFin.intro F' N' (.head fun p hp => Nat.ne_of_lt (lD p hp)) fun h'' c F'' N'' => ?_
    obtain ⟨R',g'⟩ := R.fzn (tk := s.toks) F'' N'' lD
    have rv := rvs_pick ⟨hlen,hall⟩ q.toList
    have rv2 := rv.later g'.toLater
    exact hq _ _ _ g' R' (.fl _ _ _ (.inr ⟨c,.head _⟩) rv2.1 rv2.2)
end
section
variable {ns : Sig} {cx : Cx} {r : Rt} {σ : St} {s : Shared}
theorem se_str {x : Str} {k : Nat} {pos : Pos} : SE ns (.Constant (.str x) k pos) (fun σ => some (.str x,σ)) := by
 refine ⟨?_⟩
 intro cx hn σ v σ' hf r s R Q E hq
 replace hq := hq.eq hf
 exact wpAny_Constant_str (hq r _ _ .same R.tok (.str _ _))
theorem swaps_cell {elt : PySem.Expr} {gens : List Comprehension} {scope : Scope} {pos p : Pos} {x : Str} {line : Nat} {env : Env} (h : env.kindOf x = some .cell) : swapsWith (.ListComp elt gens scope pos) (some (.Name x p)) line env = pure false := by
 rw [swaps_eq,h]
 have : (some NameKind.cell == some NameKind.local) = false := by decide
 rw [this,Bool.and_false,Bool.false_and,Bool.false_and]
theorem ss_assignCc {elt : PySem.Expr} {gens : List Comprehension} {scope : Scope} {p : Pos} {x : Str} {k : Nat} {pos' pos : Pos} {f : St → Option (AV × St)} (h : SE ns (.ListComp elt gens scope p) f) (hk : ns.names[k]? = some (x,.cell)) (hx : ns.names.lookup x = some .cell) (ho : ns.own.contains x = true) :
  SS ns (.Assign [.Name x pos'] (.ListComp elt gens scope p) pos) (fun σ => f σ >>= fun p => some (.next,setE k p.1 p.2)) := by
 refine ⟨?_⟩
 intro cx hn σ v σ' hf r s R Q E hq
 obtain ⟨⟨a,σ1⟩,e1,e2⟩ := bS hf
 replace hq := hq.eq e2
 obtain ⟨c,hc⟩ := ownOf_sig hn ho
 have hxc : cx.names.lookup x = some .cell := by rw [nO hn]; exact hx
 refine wpAny_Assign_Name (h.run cx hn _ _ _ e1 r s R _ _ fun r1 s1 cv g1 R1 rv => ?_) (swaps_cell hxc)
 exact storeC_ok R1 (by rw [nO hn]; exact hk) hxc hc rv fun r2 s2 g2 R2 => hq r2 s2 _ (g1.trans g2) R2 .next
noncomputable def subL (o i : AV) (σ : St) : Option (AV × St) := match o,i with
 | .fl xs,.int k => (idx xs k).map fun v => (v,σ)
 | .ref n,.int k => (match σ.heap[n]? with
  | some (.list xs,_) => (idx xs k).map fun v => (v,σ)
  | _ => none)
 | _,_ => none
theorem subLM {β : Type} {y : β} {P : Prop} {o i : AV} {F : List AV → Int → Option β} {H : Nat → Int → Option β} (h : (match o,i with | .fl xs,.int k => F xs k | .ref n,.int k => H n k | _,_ => none) = some y)
  (k1 : ∀ xs k,o = .fl xs → i = .int k → F xs k = some y → P) (k3 : ∀ n k,o = .ref n → i = .int k → H n k = some y → P) : P := by
 cases o with
 | fl xs =>
  cases i with
  | int k => exact k1 xs k rfl rfl h
  | _ => exact noneE h
 | ref n =>
  cases i with
  | int k => exact k3 n k rfl rfl h
  | _ => exact noneE h
 | _ => exact noneE h
theorem subL_inv {a b : AV} {σ : St} {p : AV × St} (h : subL a b σ = some p) : ∃ k,b = .int k ∧ ((∃ xs x,a = .fl xs ∧ idx xs k = some x ∧ p = (x,σ)) ∨
  (∃ n xs j x,a = .ref n ∧ σ.heap[n]? = some (.list xs,j) ∧ idx xs k = some x ∧ p = (x,σ))) := by
 refine subLM h (fun xs k ea eb h => ?_) (fun n k ea eb h => ?_)
 ·exact mapM h fun x h1 h2 => ⟨k,eb,.inl ⟨xs,x,ea,h1,h2.symm⟩⟩
 ·exact listM h fun xs j hh h => mapM h fun x h1 h2 => ⟨k,eb,.inr ⟨n,xs,j,x,ea,hh,h1,h2.symm⟩⟩
theorem se_subL {o i : PySem.Expr} {pos : Pos} {fo fi : St → Option (AV × St)} (ho : SE ns o fo) (hi : SE ns i fi)
  (hs : ∀ o k u,subscripted i false (.ref o) (.int k u) = operate [.ref o,.int k u] (getItem (.ref o) (.int k u)) := by intro _ _ _; with_unfolding_all rfl) :
  SE ns (.Subscript o i pos) (fun σ => fo σ >>= fun p => fi p.2 >>= fun q => subL p.1 q.1 q.2) := by
 refine ⟨?_⟩
 intro cx hn σ v σ' hf r s R Q E hq
 obtain ⟨⟨a,σ1⟩,h1,h2⟩ := bS hf
 obtain ⟨⟨b,σ2⟩,h3,h4⟩ := bS h2
 refine Subscript_ (ho.run cx hn _ _ _ h1 r s R _ _ fun r1 s1 ca g1 R1 ra => hi.run cx hn _ _ _ h3 r1 s1 R1 _ _ fun r2 s2 cb g2 R2 rb => ?_)
 have g12 := g1.trans g2
 have ra2 := ra.later g2.toLater
 obtain ⟨k,rfl,h⟩ := subL_inv h4
 obtain ⟨tb,rfl⟩ := rb.int_inv
 rcases h with ⟨xs,x,rfl,hx,e⟩ | ⟨n,xs,kk,x,rfl,hh,hx,e⟩
 ·obtain ⟨a,vs,rfl,hk,hvs⟩ := ra2.fl_inv
  cases e
  exact idx_ok (r := r2) (R2.kl hk) hvs hx (fun cv hr => hq r2 s2 cv g12 R2 hr) hs
 ·obtain ⟨a,rfl,hγ⟩ := ra2.ref_inv
  cases e
  obtain ⟨es,h5,h6⟩ := R2.idx hγ hh
  obtain ⟨vs,nn,rfl,h7⟩ := h6.list_inv
  exact idx_ok (r := r2) ⟨_,R2.get h5 (.head _),rfl,nn,rfl⟩ h7 hx (fun cv hr => hq r2 s2 cv g12 R2 hr) hs
end
section
variable {prog : Program} {w : World} {A : Around} {s : Shared} {base h₀ : Heap} {outer : List Env} {K : Frag} {mg mb : Str → Option Value} {p : Program} {loose : List Str}
 {R : Result → Shared → Prop} {name qual : Str} {params : Arguments} {body : List Stmt} {scope : Scope} {dV kV doc pm cdv ct oc : Value} {an od : Option Addr} {osl : Array (Option Value)} {f : Addr} {args : Args} {binds : List (Str × Value)} {led : Led}
theorem enterMC (B : Below A base outer (off s.heap led)) (X : K.In (off s.heap led)) (T : TopRead p loose mg mb (off s.heap led)) (hled : ∀ q ∈ led,s.heap.get? q.1 = some q.2)
  (ho : K.lookup f = some ⟨oc,od,.func (fnOf name qual params body scope dV kV doc pm an cdv ct),osl⟩) (hcd : codeIn K cdv qual = true) (hroom : A.depth < recursionLimit)
  (hbind : BindsTo s (fnOf name qual params body scope dV kV doc pm an cdv ct) args binds) (hkind : (binds.all fun y => scope.names.lookup y.1 == some .local || scope.names.lookup y.1 == some .cell) = true)
  (hnd : ((cellsFrom 0 scope.names []).map (·.1)).Nodup)
  (h : ∀ g L' h₁ tk cells,g = off s.heap led → Fr g L' h₁ (bindL (envOfC qual scope L' f cdv).kindOf binds fun _ => none) → News g L' h₁ led → News g L' h₁ cells → (∀ q ∈ led,q.1 < L') → (∀ q ∈ cells,L' < q.1) →
   CellsAre (bindC (envOfC qual scope L' f cdv).kindOf binds fun _ => none) (cellsFrom (L' + 1) scope.names []) cells →
   wpAny (model prog w) (A.deeper (envOfC qual scope L' f cdv)) (execs body (envOfC qual scope L' f cdv))
    (fun fl s' => R (.ok (.ret (match fl with | .ret v => v | _ => .none))) s') (fun e s' => wpAny (model prog w) (A.deeper (envOfC qual scope L' f cdv)) (leaving (envOfC qual scope L' f cdv) e) (fun _ s'' => R (.error e) s'') (fun e' s'' => R (.error e') s'') s')
    { s with heap := h₁,toks := tk })
  (hco : scope.isCoroutine = false) (hgen : scope.isGenerator = false) (hk : scope.kind = .function) : codeAny (model prog w) A (.call (.ref f) args) R s := by
 have st := off_stays s.heap led
 have X' := X.keeps st
 refine codeAny_call_function hroom (X' _ _ ho) rfl hco hgen rfl (codeRec_of X' hcd) (hbind _ _ _ _ ?_)
 refine wpAny_newFunctionEnv_cells hk (kindsX hkind _) fun env' he s' x => ?_
 subst he
 refine ⟨(T.nolimit.keeps st).keeps x.toInCall.keep,codeAny_func ?_⟩
 obtain ⟨h₁,tk,rfl,_⟩ := x.done
 have hk₁ := x.toInCall.keep
 have hsz : (off s.heap led).objs.size = s.heap.objs.size := hideAll_size _ _
 obtain ⟨cells,NC,Y⟩ := Cl.news (h₀ := off s.heap led) (L := s.heap.objs.size) (Nat.le_of_eq hsz) fun n c hm => ⟨x.cell n c (lookup_of_mem_nodup (cellsFrom_names scope.names 0 (s.heap.objs.size + 1) [] [] rfl ▸ hnd) hm),x.above n c hm⟩
 refine (h _ s.heap.objs.size h₁ tk cells rfl ⟨x.toInCall.ns,fun b o e => hk₁ b o (of_hideAll _ e),Nat.le_of_eq hsz⟩
  (fun q hq => ⟨hk₁ _ _ (hled q hq),Nat.ne_of_lt (Heap.lt_size (hled q hq)),hideAll_none _ (List.mem_map_of_mem hq)⟩) NC (fun q hq => Heap.lt_size (hled q hq)) (fun q hq => ?_) Y)
 have : q.1 ∈ cells.map (·.1) := List.mem_map_of_mem hq
 rw [cellsAre_fst Y] at this
 obtain ⟨z,hz,e⟩ := List.mem_map.mp this
 rw [← e]
 exact x.above z.1 z.2 hz
end
section
variable {ns : Sig} {cx : Cx} {r : Rt} {σ : St} {s : Shared}
theorem fn_ownC {f : Addr} {n k : Nat} {ps : List Str} {name qual : Str} {params : Arguments} {body : List Stmt} {scope : Scope} {dV kV doc pm cdv ct oc : Value} {an od : Option Addr} {osl : Array (Option Value)} {den : St → Option (AF × St)}
  (ho : ∀ P,(hd.heap_1 P).lookup f = some ⟨oc,od,.func (fnOf name qual params body scope dV kV doc pm an cdv ct),osl⟩) (hcd : ∀ P,codeIn (hd.heap_1 P) cdv qual = true)
  (hb : ∀ vs : List Value,vs.length = ps.length → bindArgs (fnOf name qual params body scope dV kV doc pm an cdv ct) ⟨vs,[]⟩ = pure (ps.zip vs))
  (hco : scope.isCoroutine = false) (hgen : scope.isGenerator = false) (hk : scope.kind = .function) (hnc : ((cellsFrom 0 scope.names []).map (·.1)).Nodup) (hnd : (scope.names.map (·.1)).Nodup) (hpn : ps.Nodup)
  (hps : scope.names.take ps.length = ps.map fun x => (x,NameKind.local)) (hlk : (ps.all fun x => scope.names.lookup x == some .local) = true)
  (H : SB ⟨scope.names,true,true,true,n,ownN scope.names,cdv⟩ body den) : Fn (n + 1) f (fOwn ps.length k den) := by
 intro cx tm hfn hh hl σ xs v σ' hf r s vs R hvs RR hq
 refine ifM hf fun hxl hf => ?_
 obtain ⟨⟨av,σ1⟩,e1,e2⟩ := bS hf
 cases e2
 have hvl : vs.length = ps.length := hvs.1.trans hxl
 have hlk' : ∀ x ∈ ps,scope.names.lookup x = some .local := fun x hx => by simpa using List.all_eq_true.mp hlk x hx
 refine (enterMC (led := r.fl) (K := hd.heap_1 cx.w.params) (R.below tm) (R.X.keeps (R.off tm).1.keep) (R.T.keeps (R.off tm).1.keep) (fun q hq => (R.N q (mL _ (by rw [mu_mut tm]; exact mR _ hq))).1) (ho _) (hcd _) ?_
  (BindsTo.of_eq (hb vs hvl)) (List.all_eq_true.mpr fun y hy => by rw [hlk' _ (List.of_mem_zip (a := y.1) (b := y.2) hy).1]; rfl) hnc (fun g L' h₁ tk cells hg F' N' NC lo hi Y => ?_) hco hgen hk)
 ·have := cx.hk.1
  have := cx.hlim
  unfold recursionLimit
  exact ar9 ‹_› ‹_›
 ·refine wpAny_mono (Q := fun fl s' => RR (.ok (.ret (match fl with | .ret v => v | _ => .none))) s') (E := fun _ _ => False) ?_ (fun _ _ x => x) fun _ _ x => x.elim
  refine own_bodyC (Q := fun v s => RR (.ok (.ret v)) s) (e0 := env0 xs k) (fz0 := []) (cells := cells) R tm hfn hl hk hnd ⟨hg,F',fun p hp => (mA hp).elim (NC p) (N' p),fun p hp q hq => (nomatch hq),fun p hp => (nomatch hp),fun i a e => ?_,?_,fun p hp q hq => ?_,fun q hq => ?_⟩ (by rw [hh]; exact H) e1 hq
  ·have e' := env0_get e
   have hi : i < ps.length := by rw [← hxl]; exact (List.getElem?_eq_some_iff.mp e').1
   have h1 : ps[i]? = some ps[i] := List.getElem?_eq_getElem hi
   have h2 : vs[i]? = some (vs[i]'(by rw [hvl]; exact hi)) := List.getElem?_eq_getElem _
   refine ⟨ps[i],_,?_,hlk' _ (List.getElem_mem hi),bindL_zip (fun x hx => hlk' x hx) hpn hvl h1 h2,?_⟩
   ·have := congrArg (·[i]?) hps
    simp only [List.getElem?_take,hi,if_true,List.getElem?_map,h1] at this
    exact this
   ·subst hg; exact RV.enter R tm (hvs.2 i _ _ h2 e')
  ·rw [cellsAre_fst Y]
   exact cellsFrom_apart scope.names List.nodup_nil fun q hq => (nomatch hq)
  ·have hq' : q ∈ r.fl := by simpa using hq
   exact Nat.ne_of_gt (Nat.lt_trans (lo q hq') (hi p hp))
  ·obtain ⟨o,h1,h2⟩ := cellsAre_mem Y (mem_of_lookup (ownOf_cells hnd hq))
   exact ⟨o,_,h1,h2⟩
noncomputable def fsumOk (ks : List Int) : Bool := (List.range (ks.length + 1)).all fun j => decide ((ks.getD j 0).natAbs < 2 ^ 50 ∧ (ks.take j).sum.natAbs < 2 ^ 50)
noncomputable def fsumV (o : AV) (σ : St) : Option (AV × St) := intsOf o σ >>= fun ks => if fsumOk ks then some (.flt ks.sum,σ) else none
theorem fsumOk_all {ks : List Int} (h : fsumOk ks = true) (j : Nat) : (ks.getD j 0).natAbs < 2 ^ 50 ∧ (ks.take j).sum.natAbs < 2 ^ 50 := by
 have := List.all_eq_true.mp h
 by_cases hj : j < ks.length + 1
 ·have := this j (List.mem_range.mpr hj)
  simpa using this
 ·have h1 := this ks.length (List.mem_range.mpr (Nat.lt_succ_self _))
  have h2 : ks.take j = ks.take ks.length := by rw [List.take_of_length_le (by lia),List.take_of_length_le (Nat.le_refl _)]
  have h3 : ks.getD j 0 = 0 := by rw [List.getD_eq_getElem?_getD,List.getElem?_eq_none (by omega)]; rfl
  rw [h2,h3]
  simp only [decide_eq_true_eq] at h1
  exact ⟨by decide,h1.2⟩
theorem op_fsum (hand : ns.hand = true) : Op0 ns "math.fsum" fsumV := by
 intro cx r σ s ov co v σ' hn R ro h Q E hq
 obtain ⟨ks,e1,e2⟩ := bS h
 refine ifM e2 fun hok e2 => ?_
 cases e2
 obtain ⟨a,vs,rfl,hl,hi⟩ := iO R e1 ro
 refine fsum_list (hhOf hn hand) hl hi (fsumOk_all hok) fun x h' tk t' st hx => ?_
 exact hq r _ _ .same (R.keep (tk := tk) st) (.flt _ _ _ hx)
theorem se_g1 {x : Str} {id : String} {xp pos : Pos} {a : PySem.Expr} {fa : St → Option (AV × St)} {op : AV → St → Option (AV × St)} (hop : Op0 ns id op) (hx : ns.names.lookup x = some .globalImplicit) (hv : ∀ P,nsIn (hd.heap_1 P) mainGlobals x = some (some (.builtin id)))
  (hd' : (x == ("__debug__" : Str)) = false) (ha : SE ns a fa)
  (hev : ∀ env,eval (.Call (.Name x xp) [a] [] pos) env = (do callWith pos (← eval (.Name x xp) env) [] (backTo pos (starEach [a] env)) (backToKw pos (keywordEach [] env))) := by intro _; with_unfolding_all rfl)
  (hst : ∀ env,starEach [a] env = (false,eval a env) :: starEach [] env := by intro _; with_unfolding_all rfl) : SE ns (.Call (.Name x xp) [a] [] pos) (fB1 fa op) := by
 refine ⟨?_⟩
 intro cx hn σ v σ' hf r s R Q E hq
 obtain ⟨⟨xv,σ1⟩,e1,e2⟩ := bS hf
 refine Call_ (nmK R.Fe R.X R.T (hv _) ?_ cx.hg cx.hf (show cx.names.lookup x = _ by rw [nO hn]; exact hx) hd') (hev _)
 refine PyProof.Rows.callWith_builtin1 ?_ (hst _) rfl
 refine args_cons (ha.run cx hn _ _ _ e1 r s R _ _ fun r1 s1 cv g1 R1 rv => args_nil ?_) (hst _)
 exact hop cx r1 σ1 s1 xv cv v σ' hn R1 rv e2 _ _ fun r2 s2 cw g2 R2 rw => hq r2 s2 cw (g1.trans g2) R2 rw
end
section
variable {M : Model} {A : Around} {E : Value → Shared → Prop} {s : Shared}
theorem genCode_any {env : Env} {c P : Addr} {ps : Array Value} {pos : Pos} {qualname : Str} {scope : Scope} {Q : Value → Shared → Prop} (hc : env.code = .ref c) (hok : s.heap.IsCode c P ps) (htab : s.heap.TableAt c P ps)
  (hQ : ∀ cv h' tk ps',Heap.ExtBut P s.heap h' → s.heap.objs.size ≤ h'.objs.size → h'.IsCode c P ps' → h'.TableAt c P ps' → Q cv { s with heap := h',toks := tk }) : wpAny M A (genexprCode env pos qualname scope) Q E s := by
 cases hnf : codeAmong pos ps.toList with
 | none => exact wpAny_genexprCodeX hc hok htab hnf fun c' h' tk hx hge hlt hcode _ htab' _ => hQ _ h' tk _ hx (Nat.le_trans hge (Nat.le_of_lt hlt)) hcode htab'
 | some cv =>
  obtain ⟨o,vs,file,tf,flags,tg,inF,text,tt,op,ho,hd,h11,h2,h7,h9,h10,hop,hpd,htr,hne⟩ := id hok
  unfold genexprCode codeAt
  rw [hc,if_neg (show ¬ ((Value.ref c == Value.none) = true) from Bool.false_ne_true)]
  refine wpAny_bind (wpAny_fieldsOf ho hd ?_)
  rw [h11]
  refine wpAny_bind (wpAny_fieldsOf hop hpd ?_)
  rw [hnf]
  exact wpAny_pure (hQ cv s.heap s.toks ps (Heap.ExtBut.refl _ _) (Nat.le_refl _) hok htab)
end
section
variable {prog : Program} {w : World} {A : Around} {E : Value → Shared → Prop} {s : Shared}
theorem genAt_move {a : Addr} {g : Nat} {C : Addr} {fp wr : List Addr} {pz : Nat → Bool} {n₀ : Nat} {F : Nat → Value → Prop} {j : Nat} {s' : Shared} (st : GenAt prog w A a g C fp wr pz n₀ F j s) (hcs : cStatics ∈ fp)
  (hk : ∀ b ∈ a :: C :: fp,∀ o,s.heap.get? b = some o → s'.heap.get? b = some o) (hg : s'.gens[g]? = s.gens[g]?) : GenAt prog w A a g C fp wr pz n₀ F j s' :=
 ⟨let ⟨o,nm,qn,ho,r⟩ := st.1; ⟨o,nm,qn,hk a (List.mem_cons_self ..) o ho,r⟩,
 (let ⟨mc,hns,hnn⟩ := st.2.1; ⟨mc,hns.at' fun o e => hk cStatics (List.mem_cons_of_mem _ (List.mem_cons_of_mem _ hcs)) o e,hnn⟩),
 let ⟨gs,hgs,hgo⟩ := st.2.2; ⟨gs,hg.trans hgs,fun s'' hal => hgo s'' fun b hb o e => hal b hb o (hk b (List.mem_cons_of_mem _ hb) o e)⟩⟩
theorem passing_all (n : Nat) : passing (fun _ => true) n 0 = List.range n := by
 unfold passing
 rw [List.drop_zero]
 exact List.filter_eq_self.mpr fun _ _ => rfl
structure GenP (prog : Program) (w : World) (A : Around) (n : Nat) (F : Nat → Value → Prop) (a : Addr) (g : Nat) (C I l cc : Addr) (s : Shared) : Prop where
 W : WalksS prog w A a [a,C,I,l,cc,cStatics] [C,I] (GenOnlyQ g) n F (GenAt prog w A a g C [I,l,cc,cStatics] [I] (fun _ => true) n F)
 S : GenAt prog w A a g C [I,l,cc,cStatics] [I] (fun _ => true) n F 0 s
theorem mk_gen {env : Env} {elt iter : Expr} {x : Str} {cl : List (Str × Addr)} {px : Pos} {scope : Scope} {pos : Pos} {Q : Value → Shared → Prop} {l cc bm : Addr} {items ps : Array Value} {oc ob : Obj} {mg : Str → Option Value} {F : Nat → Value → Prop}
  (hh : A.handled = none) (hco : scope.isCoroutine = false) (hclos : closureFor scope env = pure cl) (hcell : ∀ y ∈ scope.names,y.2 ≠ .cell) (h0 : scope.names.lookup (".0" : Str) = some NameKind.local)
  (hx : scope.names.lookup x = some .local) (hkind : scope.kind = .function) (hroom : A.depth < recursionLimit) (hs : ∀ x,genFold iter env x = pure x)
  (hev : ∀ (Q : Value → Shared → Prop) E,Q (.ref l) s → wpAny (model prog w) A (eval iter env) Q E s)
  (hl : s.heap.IsList l items) (hc : env.code = .ref 68) (hok : s.heap.IsCode 68 64 ps) (htab : s.heap.TableAt 68 64 ps) (BM : BMod s.heap env.globals mg bm ob) (hlim : s.heap.NoLimit) (hcc : s.heap.get? cc = some oc)
  (hl64 : l ≠ 64) (hc64 : cc ≠ 64) (hs64 : cStatics ≠ 64)
  (hel : ∀ (C : Addr) (cv : Value) (A' : Around) E' i v (s₂ : Shared) m₂,A'.handled = none → items[i]? = some v → s₂.heap.Ns C m₂ → m₂ x = some v → s₂.heap.get? cc = some oc →
   wpAny (model prog w) A' (eval elt (genEnv scope cl C cv builtinsNs env)) (fun y s₃ => F i y ∧ Keeps s₂ s₃) E' s₂)
  (hQ : ∀ a C (s' : Shared) ps',Heap.ExtBut 64 s.heap s'.heap → s'.heap.IsCode 68 64 ps' → s'.heap.TableAt 68 64 ps' → s'.os = s.os → s'.drawn = s.drawn → (AllBare s.gens → AllBare s'.gens) → s'.gens.size = s.gens.size + 1 → (∀ i,i < s.gens.size → s'.gens[i]? = s.gens[i]?) →
   s.heap.objs.size < C → C < a → a < s'.heap.objs.size → GenP prog w A.in1 items.size F a s.gens.size C s.heap.objs.size l cc s' → Q (.ref a) s') :
  wpAny (model prog w) A (eval (.GeneratorExp elt [⟨.Name x px,iter,[],0⟩] scope pos) env) Q E s := by
 refine wpAny_GeneratorExp_make hco hclos hcell h0 hkind hroom (hev _ _ (wpAny_pyIter_list hl ⟨hlim.push _,genCode_any hc (hok.push _) (htab.push _) fun cv h₃ tk₃ ps' hx₃ hge hok₃ htab₃ => ?_⟩)) hs
 have hx₃ : Heap.ExtBut 64 (s.heap.push { cls := .type "list_iterator",data := .fields #[.ref l,.int 0 0] }) h₃ := hx₃
 have hz : s.heap.objs.size + 1 ≤ h₃.objs.size := by rw [← Heap.size_push]; exact hge
 have M₃ : BMod h₃ env.globals mg bm ob := (BM.keeps fun _ _ e => Heap.get?_push_of_some _ e).extBut (htab.push _) hx₃
 have k₃ : Heap.ExtBut 64 s.heap h₃ := fun b o hb e => hx₃ b o hb (Heap.get?_push_of_some _ e)
 refine wpAny_builtinsFor M₃.ns M₃.name M₃.ne M₃.obj M₃.cls M₃.dict M₃.data ?_
 intro h' hn' hs'
 have hsz : h'.objs.size = h₃.objs.size + 1 := by rw [hs'.1,Heap.size_push]
 have keep' : ∀ b o,h₃.get? b = some o → h'.get? b = some o := fun b o e => hs'.extBut b o (Nat.ne_of_lt (Heap.lt_size e)) (Heap.get?_push_of_some _ e)
 have h64 : (64 : Nat) < s.heap.objs.size := hok.lt.2
 have hll : l < s.heap.objs.size := by obtain ⟨_,e,_⟩ := hl; exact Heap.lt_size e
 have hcl : cc < s.heap.objs.size := Heap.lt_size hcc
 have hI64 : s.heap.objs.size ≠ 64 := Nat.ne_of_gt h64
 have hcs : cStatics < s.heap.objs.size := let ⟨_,hn,_⟩ := hlim; hn.lt
 have keep₅ : ∀ (o5 : Obj) b o,h₃.get? b = some o → (h'.push o5).get? b = some o := fun o5 b o e => Heap.get?_push_of_some _ (keep' b o e)
 have hgl : GenState.bare (.fresh (.compStart (.GeneratorExp elt [⟨.Name x px,iter,[],0⟩] scope pos) 0 (.ref s.heap.objs.size) .none (genEnv scope cl h₃.objs.size cv builtinsNs env))) = true := rfl
 have haC : h'.objs.size ≠ h₃.objs.size := by rw [hsz]; exact Nat.succ_ne_self _
 have ha : ∀ b ∈ [s.heap.objs.size,l,cc,cStatics],b < h₃.objs.size := by
  intro b hb
  simp only [List.mem_cons,List.not_mem_nil,or_false] at hb
  rcases hb with rfl | rfl | rfl | rfl
  ·exact hz
  ·exact Nat.lt_of_lt_of_le hll (Nat.le_of_succ_le hz)
  ·exact Nat.lt_of_lt_of_le hcl (Nat.le_of_succ_le hz)
  ·exact Nat.lt_of_lt_of_le hcs (Nat.le_of_succ_le hz)
 refine hQ h'.objs.size h₃.objs.size _ ps' (fun b o hb e => keep₅ _ b o (k₃ b o hb e)) (hok₃.keeps (keep₅ _)) (htab₃.keeps (keep₅ _)) rfl rfl (fun q => q.push hgl) (Array.size_push _) (fun i hi => ?_) (by assumption) (by simp_all) (by rw [Heap.size_push]; exact Nat.lt_succ_self _) ⟨?_,?_⟩
 ·show (Array.push _ _)[i]? = _
  rw [Array.getElem?_push,if_neg (Nat.ne_of_lt hi)]
 ·have W := WalksS.genexpQ (prog := prog) (w := w) (A := A.in1) hh h'.objs.size s.gens.size h₃.objs.size [s.heap.objs.size,l,cc,cStatics] [s.heap.objs.size] (fun _ => true) items.size F haC (fun hm => absurd (ha _ hm) (by simp_all)) (fun b hb => by rw [List.mem_singleton.mp hb]; exact List.mem_cons_self ..) hroom (by simp) (Nat.ne_of_lt (ha _ (by simp))) (fun hm => Nat.ne_of_lt hcs (List.mem_singleton.mp hm))
  rw [passing_all,List.length_range] at W
  exact W.imp fun i v ⟨i',e,h⟩ => by
   obtain ⟨hi,e⟩ := List.getElem?_eq_some_iff.mp e
   rw [List.getElem_range] at e
   subst e; exact h
 ·refine GenAt.freshD (A := A.in1) (cenv := genEnv scope cl h₃.objs.size cv builtinsNs env) (m := fun y => if y = ".0" then some (.ref s.heap.objs.size) else none) (St₀ := fun i h => h.IsListIter s.heap.objs.size l i ∧ h.IsList l items) (P := fun i v => items[i]? = some v) (fp := [s.heap.objs.size,l,cc,cStatics]) (wr := [s.heap.objs.size]) hh
   (fun A' hA => (Walks.list hA _ _ (Nat.ne_of_lt hll) items).mono_fp fun b hb => ?_) (fun _ => true) F hx (by simp [genEnv,hkind]) hco (fun hm => absurd (ha _ hm) (Nat.lt_irrefl _)) ⟨?_,?_⟩ ⟨_,_,_,Heap.get?_push_size _ rfl,rfl,rfl,rfl⟩ (Array.getElem?_push_size ..) ⟨?_,?_⟩ (hn'.push _) ?_
  ·simp only [List.mem_cons,List.not_mem_nil,or_false] at hb
   rcases hb with rfl | rfl <;> simp
  ·intro A' E' i v s₂ m₂ hA hD hU hP hn hm hk
   exact wpAny_of_eq (a := true) rfl ⟨rfl,s₂.heap,s₂.toks,rfl,fun _ _ e => e⟩
  ·intro A' E' i v s₂ m₂ hA hD hU hP _ hn hm hk
   exact hel _ _ A' E' i v s₂ m₂ hA hP hn hm (hk cc (by simp) (fun hm => Nat.ne_of_lt hcl (List.mem_singleton.mp hm)) oc (keep₅ _ _ _ (k₃ _ _ hc64 hcc)))
  ·exact ⟨_,keep₅ _ _ _ (hx₃ _ _ hI64 (Heap.get?_push_size _ rfl)),rfl,rfl⟩
  ·obtain ⟨o,e,r⟩ := hl
   exact ⟨o,keep₅ _ _ _ (k₃ _ _ hl64 e),r⟩
  ·exact (hlim.extBut k₃ hs64).keeps (keep₅ _)
end
noncomputable def GB (a b : Array GenState) : Prop := AllBare a → AllBare b
theorem GB.ofQ {g : Nat} {a b : Array GenState} (x : GenOnlyQ g a b) : GB a b := fun h => x.bare h
theorem genOnlyQ_other {g i : Nat} {a b : Array GenState} (x : GenOnlyQ g a b) (hi : i ≠ g) : b[i]? = a[i]? := by
 rcases x with rfl | ⟨⟨_,ho⟩,_⟩
 ·rfl
 ·exact ho i hi
section
variable {prog : Program} {w : World} {A : Around} {E : Value → Shared → Prop} {s : Shared}
open PySem.Float64 PySem.Builtin.Math
theorem sumprod_gens {Q : Value → Shared → Prop} {n : Nat} {va vb : Nat → Int} {a1 C1 I1 l1 c1 a2 C2 I2 l2 c2 : Addr} {g1 g2 : Nat} (hh : A.handled = none)
  (X : GenP prog w A.in1 n (fun i v => ∃ x t,v = .float x t ∧ IsI x (va i)) a1 g1 C1 I1 l1 c1 s) (Y : GenP prog w A.in1 n (fun i v => ∃ x t,v = .float x t ∧ IsI x (vb i)) a2 g2 C2 I2 l2 c2 s) (hg : g1 ≠ g2)
  (d1 : ∀ b ∈ [a2,C2,I2,l2,c2,cStatics],b ∉ [C1,I1]) (d2 : ∀ b ∈ [a1,C1,I1,l1,c1,cStatics],b ∉ [C2,I2]) (l1' : ∀ b ∈ [C1,I1],@LT.lt Nat _ b s.heap.objs.size) (l2' : ∀ b ∈ [C2,I2],@LT.lt Nat _ b s.heap.objs.size)
  (hfit : ∀ j,j ≤ n → (va j * vb j).natAbs < 2 ^ 50 ∧ (prodSum va vb j).natAbs < 2 ^ 50) (hn : 0 < n)
  (hQ : ∀ x s' t',Moved ([C1,I1] ++ [C2,I2]) GB s s' → IsI x (prodSum va vb n) → Q (.float x t') s') :
  wpAny (model prog w) A (call (.builtin "math.sumprod") [.ref a1,.ref a2]) Q E s := by
 have hh1 : A.in1.handled = none := hh
 refine call_function_tree F.kind_sumprod F.plain_sumprod F.entry_sumprod (F.args_sumprod _ _) ?_
 show wpAny _ A.in1 (pyIter (.ref a1) >>= _) _ _ s
 refine wpAny_bind (X.W.self 0 s _ _ X.S ?_)
 refine wpAny_bind (wpAny_holding (Y.W.self 0 s _ _ Y.S ?_))
 refine wpAny_bind (wpAny_mkInt ?_)
 refine wpAny_bind (wpAny_newTuple ?_ (by rw [sizeLine_eq]; simp))
 refine wpAny_pure ⟨plainId_quiet F.plain_sumprod_loop _,?_⟩
 have hcs : ∀ x y z : Addr,cStatics ∈ [x,y,z,cStatics] := fun x y z => by simp
 refine codeAny_sumprod_loop (n := n) (va := va) (vb := vb) (GH := GB) hh X.W Y.W (fun i s s' st m => ?_) (fun i s s' st m => ?_) (fun _ _ q => .ofQ q) (fun _ _ q => .ofQ q) (fun _ q => q) (fun _ _ _ x y q => y (x q)) (fun _ _ q => q) (fun _ _ q => q) hfit hn n 0 _ _ true _ (zero false,zero false,zero false) (Nat.sub_zero _) (Nat.zero_le _) (by simp)
  (X.W.frame 0 s _ (s.toks + 1) X.S (Nat.le_succ _) fun b hb o e => Heap.get?_push_of_some _ e) (Y.W.frame 0 s _ (s.toks + 1) Y.S (Nat.le_succ _) fun b hb o e => Heap.get?_push_of_some _ e) ⟨_,_,Heap.get?_push_size _ rfl,rfl⟩ l1' l2' ⟨isI_zero _,isI_zero _,isI_zero _⟩ fun x s' t' m hx => ?_
 ·exact genAt_move st (hcs _ _ _) (fun b hb o e => m.heap b o (d1 b hb) e) (genOnlyQ_other m.gens (Ne.symm hg))
 ·exact genAt_move st (hcs _ _ _) (fun b hb o e => m.heap b o (d2 b hb) e) (genOnlyQ_other m.gens hg)
 ·exact hQ x s' t' ⟨fun b o hb e => m.heap b o hb (Heap.get?_push_of_some _ e),m.gens,m.drawn,m.os,Nat.le_of_succ_le m.toks⟩ hx
end
section
variable {prog : Program} {w : World} {A : Around} {E : Value → Shared → Prop} {s : Shared}
theorem elt_sub {env : Env} {xi xb : Str} {p1 p2 p3 : Pos} {scope : Scope} {cl : List (Str × Addr)} {C cc : Addr} {cv : Value} {m : Str → Option Value} {i a : Int} {t u : Tok} {x : UInt64} {oc : Obj} (hk : scope.kind = .function) (hxi : scope.names.lookup xi = some .local) (hxb : scope.names.lookup xb = some .free)
  (h1 : (xi == ("__debug__" : Str)) = false) (h2 : (xb == ("__debug__" : Str)) = false) (h3 : (xb == ("__classdict__" : Str)) = false) (hcl : cl.lookup xb = some cc) (hns : s.heap.Ns C m) (hm : m xi = some (.int i t)) (hcc : s.heap.get? cc = some oc) (hoc : oc.data = .cell (some (.float x u))) (hx : IsI x a)
  (hi : i.natAbs < 2 ^ 53) (hia : (i - a).natAbs < 2 ^ 53) :
  wpAny (model prog w) A (eval (.BinOp (.Name xi p1) .Sub (.Name xb p2) p3) (genEnv scope cl C cv builtinsNs env)) (fun y s₃ => (∃ x t,y = .float x t ∧ IsI x (i - a)) ∧ Keeps s s₃) E s := by
 refine wpAny_BinOp (wpAny_Name (wpAny_loadName_local (env := genEnv scope cl C cv builtinsNs env) hk hxi hns hm ?_) h1)
 refine wpAny_Name (wpAny_loadName_free (env := genEnv scope cl C cv builtinsNs env) hk hxb hcl ⟨oc,hcc,hoc⟩ ?_ h3) h2
 exact PyProof.Rows.sub_if_fits (Nat.lt_of_lt_of_le hi (Nat.pow_le_pow_right (by decide) (by decide))) ⟨⟨_,_,rfl,isI_sub (isI_ofInt hi) hx hia⟩,s.heap,s.toks + 1,rfl,fun _ _ e => e⟩
end
theorem codeFacts : ∀ P,∃ o vs file tf flags tg inF text tt,(hd.heap_1 P).lookup 68 = some o ∧ o.data = .fields vs ∧ vs.getD 11 .none = .ref 64 ∧ vs.getD 18 .none = .str file tf ∧
  vs.getD 7 .none = .int flags tg ∧ vs.getD 9 .none = .bool inF ∧ vs.getD 10 .none = .int text tt ∧ o.cls = .type "code" ∧ vs[11]? = some (.ref 64) := fun P => ⟨_,_,_,_,_,_,_,_,_,by rfl,by rfl,by rfl,by rfl,by rfl,by rfl,by rfl,by rfl,by rfl⟩
structure Tab (h : Heap) (ps : Array Value) : Prop where
 code : h.IsCode 68 64 ps
 tab : h.TableAt 68 64 ps
theorem tab_of {P : Params} {h : Heap} {ps : Array Value} (X : (hd.heap_1 P).In h) (h64 : h.get? 64 = some (tblO ps)) (ht : TabOk ps) : Tab h ps := by
 obtain ⟨o,vs,file,tf,flags,tg,inF,text,tt,ho,hd',h11,h18,h7,h9,h10,hc,hv⟩ := codeFacts P
 exact ⟨⟨o,vs,file,tf,flags,tg,inF,text,tt,_,X _ _ ho,hd',h11,h18,h7,h9,h10,h64,rfl,ht,by decide⟩,⟨⟨o,vs,X _ _ ho,hc,hd',hv⟩,h64⟩⟩
theorem Tab.ok {h : Heap} {ps : Array Value} (T : Tab h ps) : TabOk ps := by
 obtain ⟨⟨o,vs,file,tf,flags,tg,inF,text,tt,op,ho,hd,h11,h2,h7,h9,h10,hop,hpd,htr,hne⟩,_⟩ := T
 exact htr
section
variable {ns : Sig} {cx : Cx} {r : Rt} {σ : St} {s : Shared}
theorem Rel.tblTurn (R : Rel cx r σ s) (tm : cx.tm = true) (hfn : cx.fn = true) {i n : Nat} (hi : σ.heap[i]? = some (AO.tbl,n)) {s' : Shared} {ps : Array Value} (hx : Heap.ExtBut 64 s.heap s'.heap) (hp : s'.heap.get? 64 = some (tblO ps)) (ht : TabOk ps) (hos : s'.os = s.os) (hdr : s'.drawn = s.drawn)
  (hb : AllBare s.gens → AllBare s'.gens) : ∃ r',Go cx r σ s r' (turn σ i .tbl n) s' ∧ Rel cx r' (turn σ i .tbl n) s' ∧ r'.K = r.K ∧ r'.γ = r.γ := by
 obtain ⟨a,es,h1,h2⟩ := R.H i _ _ hi
 cases h2 with
 | tbl ps0 ha _ =>
  subst ha
  have hm : ((64 : Addr),tblO ps0) ∈ r.mu cx := ento tm h1 (List.mem_singleton.mpr rfl)
  obtain ⟨n1,n2,n3⟩ := R.N _ (mL _ hm)
  have F' : Fr r.K.h0 cx.L s'.heap r.m := ⟨R.F.ns.at' fun o e => hx _ o (Ne.symm n2) e,fun b o e => hx b o (fun e2 => by subst e2; rw [n3] at e; cases e) (R.F.keep b o e),R.F.above⟩
  have N' : News r.K.h0 cx.L s'.heap (rep 64 (tblO ps) (r.mu cx) ++ (r.K.fz ++ r.it)) := by
   intro p hp'
   rcases mA hp' with h | h
   ·obtain ⟨q,hq,e⟩ := List.mem_map.mp h
    split at e
    ·subst e; exact ⟨hp,n2,n3⟩
    ·subst e
     rename_i hne
     obtain ⟨k1,k2,k3⟩ := R.N q (mL _ hq)
     exact ⟨hx _ _ hne k1,k2,k3⟩
   ·obtain ⟨k1,k2,k3⟩ := R.N p (mR _ h)
    exact ⟨hx _ _ (fun e => R.dj _ hm p h e.symm) k1,k2,k3⟩
  obtain ⟨R',G'⟩ := R.upd (tk := s'.toks) tm h1 (o := tblO ps0) (o' := tblO ps) (D := 64) (List.mem_singleton.mpr rfl) F' N' hi (ao := AO.tbl) (RO.tbl (prog := prg) (w := cx.w) 64 ps rfl ht)
  refine ⟨_,⟨G'.toLater,G'.toVer,?_,G'.os⟩,⟨R'.toRelP,R'.F,R'.N⟩,rfl,repOs_γ⟩
  have := cx.sG tm hfn s s'.heap s'.toks s'.gens hb
  rw [← hos,← hdr] at this
  exact this
noncomputable def prodOk (xs ys : List Int) (a b : Int) : Bool := decide (xs.length = ys.length ∧ 0 < xs.length) && (List.range (xs.length + 1)).all fun j =>
 decide ((xs.getD j 0).natAbs < 2 ^ 50 ∧ (ys.getD j 0).natAbs < 2 ^ 50 ∧ (xs.getD j 0 - a).natAbs < 2 ^ 50 ∧ (ys.getD j 0 - b).natAbs < 2 ^ 50 ∧ ((xs.getD j 0 - a) * (ys.getD j 0 - b)).natAbs < 2 ^ 50 ∧ (prodSum (fun i => xs.getD i 0 - a) (fun i => ys.getD i 0 - b) j).natAbs < 2 ^ 50)
noncomputable def prodV (x xb y yb : AV) (σ : St) : Option (AV × St) := match xb,yb,σ.heap[0]? with
 | .flt a,.flt b,some (AO.tbl,n) => intsOf x σ >>= fun xs => intsOf y σ >>= fun ys => if prodOk xs ys a b then some (.flt (prodSum (fun i => xs.getD i 0 - a) (fun i => ys.getD i 0 - b) xs.length),turn σ 0 .tbl n) else none
 | _,_,_ => none
noncomputable def fProd (k1 k2 k3 k4 : Nat) (σ : St) : Option (AV × St) := getE k1 σ >>= fun x => getE k2 σ >>= fun xb => getE k3 σ >>= fun y => getE k4 σ >>= fun yb => prodV x xb y yb σ
theorem prodOk_all {xs ys : List Int} {a b : Int} (h : prodOk xs ys a b = true) : xs.length = ys.length ∧ 0 < xs.length ∧ ∀ j,j ≤ xs.length →
  (xs.getD j 0).natAbs < 2 ^ 50 ∧ (ys.getD j 0).natAbs < 2 ^ 50 ∧ (xs.getD j 0 - a).natAbs < 2 ^ 50 ∧ (ys.getD j 0 - b).natAbs < 2 ^ 50 ∧ ((xs.getD j 0 - a) * (ys.getD j 0 - b)).natAbs < 2 ^ 50 ∧ (prodSum (fun i => xs.getD i 0 - a) (fun i => ys.getD i 0 - b) j).natAbs < 2 ^ 50 := by
 unfold prodOk at h
 rw [Bool.and_eq_true] at h
 obtain ⟨h1,h2⟩ := h
 obtain ⟨h3,h4⟩ := of_decide_eq_true h1
 exact ⟨h3,h4,fun j hj => of_decide_eq_true (List.all_eq_true.mp h2 j (List.mem_range.mpr (Nat.lt_succ_of_le hj)))⟩
theorem gens_apart {n0 I1 C1 a1 n1 I2 C2 a2 n2 l1 c1 l2 c2 cs : Nat} (e1 : I1 = n0) (h1 : n0 < C1) (h2 : C1 < a1) (h3 : a1 < n1) (e2 : I2 = n1) (h4 : n1 < C2) (h5 : C2 < a2) (h6 : a2 < n2) (k1 : l1 < n0) (k2 : c1 < n0) (k3 : l2 < n0) (k4 : c2 < n0) (k5 : cs < n0) :
  (∀ b ∈ [a2,C2,I2,l2,c2,cs],b ∉ [C1,I1]) ∧ (∀ b ∈ [a1,C1,I1,l1,c1,cs],b ∉ [C2,I2]) ∧ (∀ b ∈ [C1,I1],b < n2) ∧ (∀ b ∈ [C2,I2],b < n2) ∧ (∀ b,b < n0 → b ∉ [C1,I1] ++ [C2,I2]) := by
 have nC1 : n0 < n1 := Nat.lt_trans h1 (Nat.lt_trans h2 h3)
 have nn : n1 < n2 := Nat.lt_trans h4 (Nat.lt_trans h5 h6)
 have out : ∀ {x y b : Nat},b ≠ x → b ≠ y → b ∉ [x,y] := fun h1 h2 h => by
  rcases List.mem_cons.mp h with h | h
  ·exact h1 h
  ·exact h2 (List.mem_singleton.mp h)
 have lo : ∀ {b : Nat},b < n0 → b ∉ [C1,I1] := fun h => out (Nat.ne_of_lt (Nat.lt_trans h h1)) (by rw [e1]; exact Nat.ne_of_lt h)
 have lo2 : ∀ {b : Nat},b < n1 → b ∉ [C2,I2] := fun h => out (Nat.ne_of_lt (Nat.lt_trans h h4)) (by rw [e2]; exact Nat.ne_of_lt h)
 have hi : ∀ {b : Nat},C1 < b → b ∉ [C1,I1] := fun h => out (Nat.ne_of_gt h) (by rw [e1]; exact Nat.ne_of_gt (Nat.lt_trans h1 h))
 have ag : C1 < n1 := Nat.lt_trans h2 h3
 refine ⟨fun b hb => ?_,fun b hb => ?_,fun b hb => ?_,fun b hb => ?_,fun b hb h => ?_⟩
 ·simp only [List.mem_cons,List.not_mem_nil,or_false] at hb
  rcases hb with rfl | rfl | rfl | rfl | rfl | rfl
  ·exact hi (Nat.lt_trans ag (Nat.lt_trans h4 h5))
  ·exact hi (Nat.lt_trans ag h4)
  ·exact hi (by rw [e2]; exact ag)
  ·exact lo k3
  ·exact lo k4
  ·exact lo k5
 ·simp only [List.mem_cons,List.not_mem_nil,or_false] at hb
  rcases hb with rfl | rfl | rfl | rfl | rfl | rfl
  ·exact lo2 h3
  ·exact lo2 ag
  ·exact lo2 (by rw [e1]; exact nC1)
  ·exact lo2 (Nat.lt_trans k1 nC1)
  ·exact lo2 (Nat.lt_trans k2 nC1)
  ·exact lo2 (Nat.lt_trans k5 nC1)
 ·rcases List.mem_cons.mp hb with rfl | hb
  ·exact Nat.lt_trans ag nn
  ·rw [List.mem_singleton.mp hb,e1]; exact Nat.lt_trans nC1 nn
 ·rcases List.mem_cons.mp hb with rfl | hb
  ·exact Nat.lt_trans h5 h6
  ·rw [List.mem_singleton.mp hb,e2]; exact nn
 ·rcases mA h with h | h
  ·exact lo hb h
  ·exact lo2 (Nat.lt_trans hb nC1) h
theorem prodM {β : Type} {y : β} {P : Prop} {u v : AV} {o : Option (AO × Nat)} {F : Int → Int → Nat → Option β} (h : (match u,v,o with | .flt a,.flt b,some (AO.tbl,n) => F a b n | _,_,_ => none) = some y) (k : ∀ a b n,u = .flt a → v = .flt b → o = some (.tbl,n) → F a b n = some y → P) : P := by
 cases u with
 | flt a =>
  cases v with
  | flt b =>
   cases o with
   | none => exact noneE h
   | some p =>
    obtain ⟨t,n⟩ := p
    cases t with
    | tbl => exact k a b n rfl rfl rfl h
    | _ => exact noneE h
  | _ => exact noneE h
 | _ => exact noneE h
theorem se_sumprod {k1 k2 k3 k4 : Nat} {xp p1 p2 p3 p4 p5 p6 q1 q2 q3 q4 q5 q6 pos : Pos} (tm : ns.tm = true) (hand : ns.hand = true) (hfn : ns.fn = true) (hcd : ns.cd = .ref 68)
  (hx : ns.names[k1]? = some (Str.ofString "x",.local)) (hxb : ns.names[k2]? = some (Str.ofString "xbar",.cell)) (hy : ns.names[k3]? = some (Str.ofString "y",.local)) (hyb : ns.names[k4]? = some (Str.ofString "ybar",.cell)) (hsp : ns.names.lookup (Str.ofString "sumprod") = some .globalImplicit) :
  SE ns (.Call (.Name (Str.ofString "sumprod") xp) [.GeneratorExp (.BinOp (.Name (Str.ofString "xi") p1) .Sub (.Name (Str.ofString "xbar") p2) p3) [⟨.Name (Str.ofString "xi") p4,.Name (Str.ofString "x") p5,[],0⟩] { kind := .function,names := [(Str.ofString ".0",.local),(Str.ofString "xi",.local),(Str.ofString "xbar",.free)],isGenerator := true,isCoroutine := false,more := [] } p6,
   .GeneratorExp (.BinOp (.Name (Str.ofString "yi") q1) .Sub (.Name (Str.ofString "ybar") q2) q3) [⟨.Name (Str.ofString "yi") q4,.Name (Str.ofString "y") q5,[],0⟩] { kind := .function,names := [(Str.ofString ".0",.local),(Str.ofString "yi",.local),(Str.ofString "ybar",.free)],isGenerator := true,isCoroutine := false,more := [] } q6] [] pos) (fProd k1 k2 k3 k4) := by
 refine ⟨?_⟩
 intro cx hn σ v σ' hf r s R Q E hq
 refine hide fun g hg => ?_
 have tm' := tmOf hn tm
 have hfn' : cx.fn = true := by rw [← hn] at hfn; exact hfn
 have hh := hhOf hn hand
 have hcd' : cx.env.code = .ref 68 := by rw [← hn] at hcd; exact hcd
 obtain ⟨x,e1,f1⟩ := bS hf
 obtain ⟨xb,e2,f2⟩ := bS f1
 obtain ⟨y,e3,f3⟩ := bS f2
 obtain ⟨yb,e4,f4⟩ := bS f3
 refine prodM (u := xb) (v := yb) (o := σ.heap[0]?) (F := fun a b n => intsOf x σ >>= fun xs => intsOf y σ >>= fun ys => if prodOk xs ys a b then some (AV.flt (prodSum (fun i => xs.getD i 0 - a) (fun i => ys.getD i 0 - b) xs.length),turn σ 0 .tbl n) else none) (y := (v,σ')) f4 ?_
 clear f4
 intro a b n ea eb h0 f4
 subst ea eb
 obtain ⟨xs,e5,f5⟩ := bS f4
 obtain ⟨ys,e6,f6⟩ := bS f5
 refine ifM f6 fun hok f6 => ?_
 replace hq := hq.eq f6
 obtain ⟨hlen,hpos,hbd⟩ := prodOk_all hok
 obtain ⟨x',kd',vx,m1,m2,hAx,rvx⟩ := R.E _ _ (getE_some e1)
 rw [nO hn,hx] at m1; cases m1
 obtain ⟨x',kd',vxb,m1,m3,hAxb,rvxb⟩ := R.E _ _ (getE_some e2)
 rw [nO hn,hxb] at m1; cases m1
 obtain ⟨x',kd',vy,m1,m4,hAy,rvy⟩ := R.E _ _ (getE_some e3)
 rw [nO hn,hy] at m1; cases m1
 obtain ⟨x',kd',vyb,m1,m5,hAyb,rvyb⟩ := R.E _ _ (getE_some e4)
 rw [nO hn,hyb] at m1; cases m1
 obtain ⟨l1,vs1,rfl,hl1,hi1⟩ := iO R e5 rvx
 obtain ⟨l2,vs2,rfl,hl2,hi2⟩ := iO R e6 rvy
 have cellAt : ∀ {x : Str} {v : Value},At cx r x .cell v → ∃ c o,cx.env.cells.lookup x = some c ∧ s.heap.get? c = some o ∧ o.data = .cell (some v) := by
  rintro x v (⟨q,_⟩ | ⟨_,c,o,hc,hco,ho⟩)
  ·cases q
  ·refine ⟨c,o,hc,?_,ho⟩
   rcases hco with h | h
   ·exact (R.N _ (mL _ (cs_mu h))).1
   ·exact R.F.keep _ _ h
 obtain ⟨c1,oc1,hc1,hg1,ho1⟩ := cellAt hAxb
 obtain ⟨c2,oc2,hc2,hg2,ho2⟩ := cellAt hAyb
 have hmx : r.m (Str.ofString "x") = some (.ref l1) := by rcases hAx with ⟨_,h⟩ | ⟨q,_⟩; exact h; cases q
 have hmy : r.m (Str.ofString "y") = some (.ref l2) := by rcases hAy with ⟨_,h⟩ | ⟨q,_⟩; exact h; cases q
 obtain ⟨fx,tx,rfl,hfx⟩ := rvxb.flt_inv
 obtain ⟨fy,ty,rfl,hfy⟩ := rvyb.flt_inv
 obtain ⟨a64,es,hos,hro⟩ := R.H 0 _ _ h0
 cases hro with
 | tbl ps ha ht =>
 subst ha
 have hm64 : ((64 : Addr),tblO ps) ∈ r.mu cx := ento tm' hos (List.mem_singleton.mpr rfl)
 obtain ⟨g64,n2,n3⟩ := R.N _ (mL _ hm64)
 have T0 := tab_of R.Xs g64 ht
 have FB : ∀ h',Heap.ExtBut 64 s.heap h' → Fr r.K.h0 cx.env.locals h' r.m := fun h' hx => by
  rw [cx.hL]
  exact ⟨R.F.ns.at' fun o e => hx _ o (Ne.symm n2) e,fun b o e => hx b o (fun e2 => by subst e2; rw [n3] at e; cases e) (R.F.keep b o e),R.F.above⟩
 obtain ⟨bm,ob,BM⟩ := cx.bm
 have BM0 : BMod s.heap cx.env.globals cx.mg bm ob := by rw [cx.hg]; exact (BM.keeps (cx.gS _ R.G)).keeps R.F.keep
 have NL0 : s.heap.NoLimit := R.T.nolimit.keeps R.F.keep
 have hs64 : cStatics ≠ 64 := fun e => by
  obtain ⟨_,hns,_⟩ := NL0
  obtain ⟨o,es,ep,ho,hd,_⟩ := hns
  rw [e,g64] at ho; cases ho; cases hd
 have ne64 : ∀ {l : Addr} {it : Array Value},s.heap.IsList l it → l ≠ 64 := fun hl e => by
  obtain ⟨o,ho,hc,_⟩ := hl
  rw [e,g64] at ho; cases ho; exact absurd hc (by simp [tblO])
 have ce64 : ∀ {c : Addr} {o : Obj} {v : Option Value},s.heap.get? c = some o → o.data = .cell v → c ≠ 64 := fun hg hd e => by
  rw [e,g64] at hg; cases hg; cases hd
 have hroom : cx.A.depth < recursionLimit := by
  have := cx.hk.1
  have := cx.hlim
  unfold recursionLimit
  exact ar9 ‹_› ‹_›
 have cl_of : ∀ {xi xbn : Str} {c : Addr},(xi ≠ xbn) → cx.env.cells.lookup xbn = some c → ∃ cl,closureFor { kind := .function,names := [(Str.ofString ".0",.local),(xi,.local),(xbn,.free)],isGenerator := true,isCoroutine := false,more := [] } cx.env = pure cl ∧ cl.lookup xbn = some c := by
  intro xi xbn c _ hc
  obtain ⟨cl,h1,h2⟩ := closure_ok (scope := { kind := .function,names := [(Str.ofString ".0",.local),(xi,.local),(xbn,.free)],isGenerator := true,isCoroutine := false,more := [] }) (env := cx.env) (by
   intro z hz
   simp at hz
   subst hz
   exact ⟨c,hc⟩)
  exact ⟨cl,h1,(h2 xbn (by simp)).trans hc⟩
 obtain ⟨cl1,hcl1,hk1⟩ := cl_of (xi := Str.ofString "xi") (by decide) hc1
 obtain ⟨cl2,hcl2,hk2⟩ := cl_of (xi := Str.ofString "yi") (by decide) hc2
 have hz1 : vs1.toArray.size = xs.length := by simp [hi1.length]
 have hz2 : vs2.toArray.size = xs.length := by rw [hlen]; simp [hi2.length]
 refine hg ?_
 clear hg g
 refine Call_ (nmK R.Fe R.X R.T (x := Str.ofString "sumprod") (v := .builtin "math.sumprod") (by rfl) ?_ cx.hg cx.hf (show cx.names.lookup _ = _ by rw [nO hn]; exact hsp) rfl) (by with_unfolding_all rfl)
 refine PyProof.Rows.callWith_builtin1 ?_ (by with_unfolding_all rfl) (by with_unfolding_all rfl)
 refine args_cons (mk_gen (F := fun i v => ∃ x t,v = .float x t ∧ IsI x (xs.getD i 0 - a)) hh rfl hcl1 (by decide) rfl rfl rfl hroom (fun _ => rfl) (fun Q E q => nmL R.Fe hmx q cx.hf m2 rfl) hl1 hcd' T0.code T0.tab BM0 NL0 hg1 (ne64 hl1) (ce64 hg1 ho1) hs64 ?_ fun a1 C1 s1 ps1 x1 k1' t1 os1 dr1 gb1 gs1 gk1 b1 b2 b3 X1 => ?_) (by with_unfolding_all rfl)
 ·intro C cv A' E' i v s₂ m₂ hA hv hns hm hgc
  have hv' : vs1[i]? = some v := by simpa using hv
  obtain ⟨t,rfl⟩ := ints_get hi1 hv'
  have hlt : i < xs.length := by rw [← hi1.length]; exact (List.getElem?_eq_some_iff.mp hv').1
  obtain ⟨bd1,_,bd2,_⟩ := hbd i (Nat.le_of_lt hlt)
  exact elt_sub rfl rfl rfl rfl rfl rfl hk1 hns hm hgc ho1 hfx (Nat.lt_of_lt_of_le bd1 (by decide)) (Nat.lt_of_lt_of_le bd2 (by decide))
 ·have T1 : Tab s1.heap ps1 := ⟨k1',t1⟩
  have hl2' : s1.heap.IsList l2 vs2.toArray := let ⟨o,e,q⟩ := hl2; ⟨o,x1 _ _ (ne64 hl2) e,q⟩
  refine args_cons (mk_gen (F := fun i v => ∃ x t,v = .float x t ∧ IsI x (ys.getD i 0 - b)) hh rfl hcl2 (by decide) rfl rfl rfl hroom (fun _ => rfl) (fun Q E q => nmL (FB _ x1) hmy q cx.hf m4 rfl) hl2' hcd' T1.code T1.tab (BM0.extBut T0.tab x1) (NL0.extBut x1 hs64) (x1 _ _ (ce64 hg2 ho2) hg2) (ne64 hl2) (ce64 hg2 ho2) hs64 ?_ fun a2 C2 s2 ps2 x2 k2' t2 os2 dr2 gb2 gs2 gk2 b4 b5 b6 X2 => args_nil ?_) (by with_unfolding_all rfl)
  ·intro C cv A' E' i v s₂ m₂ hA hv hns hm hgc
   have hv' : vs2[i]? = some v := by simpa using hv
   obtain ⟨t,rfl⟩ := ints_get hi2 hv'
   have hlt : i < xs.length := by rw [hlen,← hi2.length]; exact (List.getElem?_eq_some_iff.mp hv').1
   obtain ⟨_,bd1,_,bd2,_⟩ := hbd i (Nat.le_of_lt hlt)
   exact elt_sub rfl rfl rfl rfl rfl rfl hk2 hns hm hgc ho2 hfy (Nat.lt_of_lt_of_le bd1 (by decide)) (Nat.lt_of_lt_of_le bd2 (by decide))
  ·have k5 : cStatics < s.heap.objs.size := let ⟨_,hn,_⟩ := NL0; hn.lt
   have kl : ∀ {l : Addr} {it : Array Value},s.heap.IsList l it → l < s.heap.objs.size := fun hl => by obtain ⟨_,e,_⟩ := hl; exact Heap.lt_size e
   obtain ⟨d1,d2,d3,d4,d5⟩ := gens_apart (n0 := s.heap.objs.size) (n1 := s1.heap.objs.size) (n2 := s2.heap.objs.size) rfl b1 b2 b3 rfl b4 b5 b6 (kl hl1) (Heap.lt_size hg1) (kl hl2) (Heap.lt_size hg2) k5
   have h64 : (64 : Nat) < s.heap.objs.size := Heap.lt_size g64
   have ne1 : ∀ b ∈ [a1,C1,s.heap.objs.size,l1,c1,cStatics],b ≠ 64 := by
    intro b hb
    simp only [List.mem_cons,List.not_mem_nil,or_false] at hb
    rcases hb with rfl | rfl | rfl | rfl | rfl | rfl
    ·exact Nat.ne_of_gt (Nat.lt_trans h64 (Nat.lt_trans b1 b2))
    ·exact Nat.ne_of_gt (Nat.lt_trans h64 b1)
    ·exact Nat.ne_of_gt h64
    ·exact ne64 hl1
    ·exact ce64 hg1 ho1
    ·exact hs64
   rw [hz1] at X1
   rw [hz2] at X2
   have X1' : GenP prg cx.w cx.A.in1 xs.length (fun i v => ∃ x t,v = .float x t ∧ IsI x (xs.getD i 0 - a)) a1 s.gens.size C1 s.heap.objs.size l1 c1 s2 := ⟨X1.W,genAt_move X1.S (by simp) (fun b hb o e => x2 b o (ne1 b hb) e) (gk2 _ (by rw [gs1]; exact Nat.lt_succ_self _))⟩
   refine sumprod_gens hh X1' X2 (by rw [gs1]; exact Nat.ne_of_lt (Nat.lt_succ_self _)) d1 d2 d3 d4 (fun j hj => ⟨(hbd j hj).2.2.2.2.1,(hbd j hj).2.2.2.2.2⟩) hpos fun z s' t' mv hz => ?_
   obtain ⟨r',go,R',hK,hγ⟩ := R.tblTurn tm' hfn' h0 (s' := s') (ps := ps2) (fun b o hb e => mv.heap b o (d5 b (Heap.lt_size e)) (x2 b o hb (x1 b o hb e))) (mv.heap _ _ (d5 64 h64) t2.2) (Tab.ok ⟨k2',t2⟩) (mv.os.trans (os2.trans os1)) (mv.drawn.trans (dr2.trans dr1)) (fun q => mv.gens (gb2 (gb1 q)))
   exact hq r' s' _ go R' (.flt _ _ _ hz)
end
section
variable {prog : Program} {w : World} {A : Around} {E : Value → Shared → Prop} {s : Shared} {K : Frag} {x t C : Addr} {ox : Obj} {ws : Array Value}
open Builtin Builtin.Str Builtin.BaseException Builtin.Exceptions
theorem bexc_args {M : Model} {items : List Value} {Q : Value × List Value → Shared → Prop} (ho : s.heap.get? x = some ox) (hd : ox.data = .fields ws) (h0 : ws[0]? = some (.ref t)) (ht : s.heap.TupAt t items) (hq : Q (.ref t,items) s) : wpAny M A (bexcArgs (.ref x)) Q E s := by
 obtain ⟨ot,k,hto,_,htd⟩ := ht
 unfold bexcArgs
 refine wpAny_bind (wpAny_field ho hd h0 (wpAny_bind (wpAny_seqItems hto htd ?_)))
 show wpAny M A (pure (Value.ref t,items.toArray.toList)) Q E s
 exact wpAny_pure (by simpa using hq)
theorem bexc_str {m : Str} {u : Tok} {Q : Fin → Shared → Prop} (ho : s.heap.get? x = some ox) (hd : ox.data = .fields ws) (h0 : ws[0]? = some (.ref t)) (ht : s.heap.TupAt t [.str m u]) (hq : Q (.done (.ret (.str m u))) s) :
  wpAny (model prog w) A (Builtin.«BaseException.__str__» ⟨[.ref x],[]⟩) Q E s := by
 unfold Builtin.«BaseException.__str__»
 repeat (first | with_reducible refine bexc_args ho hd h0 ht ?_ | wp_step)
 exact hq
theorem looks_cls {M : Model} {h : Heap} (ho : h.get? x = some ox) (hc : ox.cls = .ref C) : Looks M h (typeOf (.ref x)) (.ref C) := hc ▸ (Looks.ld ho).andThen .now
theorem str_own_call {m : Str} {u : Tok} {Q : Value → Shared → Prop} (X : K.In s.heap) (ho : s.heap.get? x = some ox) (hc : ox.cls = .ref C) (hd : ox.data = .fields ws) (h0 : ws[0]? = some (.ref t)) (ht : s.heap.TupAt t [.str m u]) (hm : mroIn K C (.type "BaseException") = some true)
  (hq : Q (.str m u) s) : wpAny (model prog w) A (call (.builtin "BaseException.__str__") [.ref x]) Q E s := by
 refine wpAny_call (codeAny_call_builtin PySem.F.excStr_ValueError.str.plain PySem.F.entry_bexc_str (check_slot (i := "BaseException.__str__") (owner := "BaseException") (n := "__str__") (by decide +kernel) (by decide +kernel) ((looks_cls ho hc).andThen (looks_mroIn X hm)) (PySem.F.args_bexc_str _) ?_))
 exact bexc_str ho hd h0 ht hq
theorem str_own {m : Str} {u : Tok} {Q : Value → Shared → Prop} (hu : A.in1.in1.units < cLine) (X : K.In s.heap) (ho : s.heap.get? x = some ox) (hc : ox.cls = .ref C) (hd : ox.data = .fields ws) (h0 : ws[0]? = some (.ref t)) (ht : s.heap.TupAt t [.str m u])
  (hs : findIn K (.ref C) "__str__" = some (some (.builtin "BaseException.__str__"))) (hm : mroIn K C (.type "BaseException") = some true) (hq : Q (.str m u) s) : wpAny (model prog w) A (call (.type "str") [.ref x]) Q E s := by
 refine callType_codes (T := "str") (Bi := Builtin.«object.__init__») (Q₁ := fun r s₁ => ∃ y u,r = .str y u ∧ Q r s₁) PySem.F.called_str (PySem.F.typeCall_str_1 _) PySem.F.entry_object_init ?_ ?_
 ·refine codeAny_of_tree ?_
  show wpAny _ A.in1.in1 (do checkBuiltinCall "str.__new__" ⟨[.type "str",.ref x],[]⟩; again (.builtin "str.__new__" ⟨[.type "str",.ref x],[]⟩)) _ _ s
  refine wpAny_bind (wpAny_of_eq (PySem.F.newCall_str_1 _) (wpAny_pure ⟨plainId_quiet (by decide +kernel) _,codeAny_builtin PySem.F.entry_str_new ?_⟩))
  rw [Around.under_plainId (by decide +kernel) _,str_new_tree]
  refine wpAny_bind (wpAny_pure ?_)
  refine wpAny_bind (wpAny_of_eq isSubtype_str_str ?_)
  have key : wpAny (model prog w) A.in1.in1 (PySem.Builtin.Str.strOf (.ref x)) (fun r s₁ => ∃ y u,r = .str y u ∧ Q r s₁) E s := by
   unfold PySem.Builtin.Str.strOf
   rw [show isExactStr (.ref x) = false from rfl]
   refine wpAny_bind (m := cRoomFor _ _) (wpAny_cRoomFor hu ?_)
   refine wpAny_bind (m := callSpecial? (.ref x) (Str.ofString "__str__")) ?_
   exact wpAny_bind (wpAny_bind ((looks_cls ho hc).here ((looks_findIn X hs).here (wpAny_holding (wpAny_bind ((Looks.of_pure (PySem.F.excStr_ValueError.str.bind _)).here (wpAny_bind (str_own_call X ho hc hd h0 ht hm (wpAny_pure (wpAny_pure ⟨_,_,rfl,hq⟩))))))))))
  exact wpAny_bind (wpAny_mono key (fun r s₁ hr => wpAny_pure hr) fun _ _ y => y)
 ·rintro obj s₁ ⟨y,u,rfl,hq⟩
  exact ⟨typeIs_str _ _ _,PySem.F.args_object_init_2 _ _,object_init_meets PySem.F.called_str.init.lookup PySem.F.called_str.made (by decide) prog w A.in1 _ s₁ ⟨typeIs_str _ _ _,rfl,hq⟩⟩
end
theorem ground_up {A₀ : Around} {base g B h₅ : Heap} {outer : List Env} {L : Addr} {m : Str → Option Value} (K : Below A₀ base outer g) (hgB : ∀ b o,g.get? b = some o → b ∉ frs outer → B.get? b = some o) (hB : B.StaysIn h₅) (hU : g.UpToSlots h₅) (hN : h₅.Ns L m) (hab : g.objs.size ≤ L) :
  ∃ g',KtsTurn (frs outer) g g' ∧ Fr g' L h₅ m ∧ Below A₀ base outer g' := by
 obtain ⟨T,S⟩ := kts_turn_at (h := h₅) (fs := frs outer) (g := g) (fun b hb => let ⟨_,o,ho,_⟩ := K.frames.mem hb; ⟨o,ho⟩) (fun b o e nm => hB b o (hgB b o e nm)) (fun b o e hm => by
  obtain ⟨_,o',ho',hd⟩ := K.frames.mem hm
  rw [e] at ho'; cases ho'
  exact hU b o e hd)
 refine ⟨_,T,⟨hN,S,by rw [T.size]; exact hab⟩,K.stack,fun b o e => T.other b o (K.stays b o e) (fun hm => by rw [(K.frames.mem hm).1] at e; cases e),K.frames.of_keeps fun b o e _ => ?_⟩
 obtain ⟨sl,hs⟩ := T.up e
 exact ⟨_,hs,rfl⟩
section
variable {prog : Program} {w : World} {A₀ : Around} {E : Value → Shared → Prop} {s' : Shared} {base g B : Heap} {outer : List Env} {L a e t C : Addr} {m : Str → Option Value} {name : Str} {scope : Scope} {cd : Value}
 {vs : List Value} {n : Str} {b₀ : Stmt} {suite : List Stmt} {pos np : Pos} {rest : List ExceptHandler} {Q : Flow → Shared → Prop} {KF : Frag} {p : Program} {loose : List Str} {mg mb : Str → Option Value} {x : Str}
theorem caught_own (K : Below A₀ base outer g) (hfl : Heap.FlyingW B (envOf name scope L a cd :: outer) e (.ref C) (.ref t) s'.heap) (htup : s'.heap.TupAt t vs) (hgB : ∀ b o,g.get? b = some o → b ∉ frs outer → B.get? b = some o) (hU : g.UpToSlots s'.heap) (hN : s'.heap.Ns L m) (hab : g.objs.size ≤ L)
  (XB : KF.In base) (TB : TopRead p loose mg mb base) (ex : nsIn KF mainGlobals x = some (some (.ref C))) (q : ktsIn KF C "BaseException" = true)
  (k : ∀ h₆ h' g' oe ws tk,KtsTurn (frs outer) g g' → Fr g' L h₆ m → B.StaysIn h₆ → Fr g' L h' (fun y => if y = n then some (.ref e) else m y) → Below A₀ base outer g' → B.StaysIn h' → h'.get? e = some oe → oe.cls = .ref C → oe.data = .fields ws → ws[0]? = some (.ref t) → h'.TupAt t vs →
   wpAny (model prog w) ((A₀.deeper (envOf name scope L a cd)).mark (some (.ref e))) (execs (b₀ :: suite) (envOf name scope L a cd))
    (fun f s₄ => wpAny (model prog w) (A₀.deeper (envOf name scope L a cd)) (do bindName (envOf name scope L a cd) n .none; unbindBehindTheSuite (envOf name scope L a cd) n pos) (fun _ s₅ => Q f s₅) E s₄)
    (fun _ _ => False) { s' with heap := h',toks := tk })
  (hk : scope.kind = .function) (hlo : (envOf name scope L a cd).kindOf n = some .local) (hx : (envOf name scope L a cd).kindOf x = some .globalImplicit) (hd : (x == ("__debug__" : Str)) = false) :
  wpAny (model prog w) (A₀.deeper (envOf name scope L a cd)) (noteFrame (.ref e) (envOf name scope L a cd))
   (fun _ s₂ => wpAny (model prog w) (A₀.deeper (envOf name scope L a cd)) (setFlight (.ref e) none) (fun _ s₃ =>
    wpAny (model prog w) (A₀.deeper (envOf name scope L a cd)) (handleBy (.ref e) (envOf name scope L a cd) (.ExceptHandler (some (.Name x np)) (some n) (b₀ :: suite) pos :: rest)) Q E s₃) E s₂) E s' := by
 have hL : B.get? L = none := by
  obtain ⟨_,⟨L',_,hf,hn',_⟩,_⟩ := hfl.2.2.1
  obtain rfl : L = L' := Option.some.inj hf
  exact hn'
 refine wpAny_looks_onW (Around.frames_deeper K.stack) rfl hfl fun h₄ hheld₄ sm₄ => ?_
 refine wpAny_landsW hheld₄ fun h₅ hheld sm₅ => ?_
 have U₅ := hU.trans (sm₄.trans sm₅)
 obtain ⟨g₅,T₅,F₅,K₅⟩ := ground_up K hgB hheld.1 U₅ ((sm₄.trans sm₅).ns hN) hab
 have X₅ : KF.In g₅ := XB.keeps K₅.stays
 refine hide fun gg hgg => ?_
 obtain ⟨ob,hob,hobc⟩ := hheld.there
 obtain ⟨nm,q',N,bs,bm,hdct,sn,sub,ab,col,dd,k0,k1,k2,k3,k5,newId,hC,hbase,hbT⟩ := kts_cls X₅ q
 refine hgg ?_
 clear hgg gg
 refine wpAny_handleBy_cons (codeAny_handlers_test (name_K F₅ X₅ (TB.keeps K₅.stays) ex ?_ hk hx hd)) (by intro q; cases q)
 refine wpAny_excMatches_sub_self (F₅.keep _ _ hC) hob hobc hbase (codeAny_handlers_suite_as ?_)
 refine lands_againW hheld fun h₆ hfl₆ sm₆ => hide fun gg hgg => ?_
 obtain ⟨g₆,T₆,F₆,K₆⟩ := ground_up K hgB hfl₆.1 (U₅.trans sm₆) (((sm₄.trans sm₅).trans sm₆).ns hN) hab
 obtain ⟨oe,ws,hoe,hoec,hoed,hoe0⟩ := hfl₆.first
 obtain ⟨ot,nt,hot,hotc,hotd⟩ := htup.of_slots ((sm₄.trans sm₅).trans sm₆)
 have neL : ∀ b o,h₆.get? b = some o → (∀ es n,o.data ≠ .dict es n) → b ≠ L := fun b o hb hd e => by
  obtain ⟨oL,es,ep,hL',hLd,_⟩ := F₆.ns
  rw [e,hL'] at hb; cases hb
  exact hd _ _ hLd
 refine hgg ?_
 clear hgg gg
 refine wpAny_storeName_local hlo F₆.ns (fun h₇ hn₇ hs₇ => ?_) (by simp [envOf,hk])
 have eL : e ≠ L := neL _ _ hoe (fun es n q => by rw [hoed] at q; cases q)
 have tL : t ≠ L := neL _ _ hot (fun es n q => by rw [hotd] at q; cases q)
 have ext : ∀ b o,b ≠ L → h₆.get? b = some o → h₇.get? b = some o := fun b o hb e => hs₇.extBut b o hb e
 refine wpAny_mono (k h₆ h₇ g₆ oe ws _ T₆ F₆ hfl₆.1 ⟨hn₇,fun b o e => ext b o (fun q => ?_) (F₆.keep b o e),F₆.above⟩ K₆ (fun b o e => ext b o (fun q => by rw [q,hL] at e; cases e) (hfl₆.1 b o e)) (ext _ _ eL hoe) hoec hoed hoe0 ⟨ot,nt,ext _ _ tL hot,hotc,hotd⟩) (fun _ _ y => y) fun _ _ y => y.elim
 rw [q,kts_self F₆] at e
 cases e
end
structure Thrown (cx : Cx) (r : Rt) (C e t : Addr) (vs : List Value) (B h : Heap) : Prop where
 fl : Heap.FlyingW B cx.stk e (.ref C) (.ref t) h
 tup : h.TupAt t vs
 gB : ∀ b o,r.K.h0.get? b = some o → b ∉ frs cx.stk → B.get? b = some o
 up : r.K.h0.UpToSlots h
 ns : h.Ns cx.L r.m
 all : ∀ p ∈ r.mu cx ++ (r.K.fz ++ r.it),B.get? p.1 = some p.2
noncomputable def Throws (n : Nat) (f C : Addr) (ms : Str) (ok : List AV → Prop) : Prop := ∀ cx : Cx,cx.tm = true → cx.fn = true → cx.hand = true → cx.lim = n → ∀ σ xs,ok xs → ∀ r s vs,RVs r.K r.γ vs xs → Rel cx r σ s → ∀ RR : Result → Shared → Prop,
 (∀ e t u B s',cx.S s s' → Thrown cx r C e t [.str ms u] B s'.heap → RR (.error (.ref e)) s') → codeAny (model prg cx.w) cx.A (.call (.ref f) ⟨vs,[]⟩) RR s
noncomputable def bmVE : List Value := [.type "ValueError",.type "Exception",.type "BaseException",.type "object"]
section
variable {ns : Sig} {cx : Cx} {r : Rt} {σ : St} {s : Shared}
theorem os_same {i : List (Addr × Led)} {j : List (Addr × Led)} {hp : List (AO × Nat)} (h1 : hp.length = i.length) (h2 : hp.length = j.length) (h : ∀ (k : Nat) (ao : AO) (n : Nat),hp[k]? = some (ao,n) → ∃ ao' n',hp[k]? = some (ao',n') ∧ n ≤ n' ∧ (n = n' → j[k]? = i[k]?)) : j = i := by
 apply List.ext_getElem?
 intro k
 cases e : hp[k]? with
 | none =>
  have := List.getElem?_eq_none_iff.mp e
  rw [List.getElem?_eq_none_iff.mpr (by lia),List.getElem?_eq_none_iff.mpr (by lia)]
 | some q =>
  obtain ⟨ao,n⟩ := q
  obtain ⟨ao',n',e',_,h3⟩ := h k ao n e
  rw [e] at e'; cases e'
  exact h3 rfl
set_option maxHeartbeats 1000000 in
theorem throw_ownC {f C : Addr} {n k : Nat} {ps : List Str} {name qual : Str} {params : Arguments} {s0 s1 : Stmt} {test : PySem.Expr} {x ms : Str} {np mp cpos rpos ipos : Pos} {kk : Nat} {rest : List Stmt} {scope : Scope} {dV kV doc pm cdv ct oc : Value} {an od : Option Addr} {osl : Array (Option Value)}
  {f0 f1 : St → Option (AF × St)} {ft : St → Option (Bool × St)} {ok : List AV → Prop} {E1 E2 E3 : List AV → List (Option AV)}
  (ho : ∀ P,(hd.heap_1 P).lookup f = some ⟨oc,od,.func (fnOf name qual params (s0 :: s1 :: .If test [.Raise (some (.Call (.Name x np) [.Constant (.str ms) kk mp] [] cpos)) none rpos] [] ipos :: rest) scope dV kV doc pm an cdv ct),osl⟩) (hcd : ∀ P,codeIn (hd.heap_1 P) cdv qual = true)
  (hb : ∀ vs : List Value,vs.length = ps.length → bindArgs (fnOf name qual params (s0 :: s1 :: .If test [.Raise (some (.Call (.Name x np) [.Constant (.str ms) kk mp] [] cpos)) none rpos] [] ipos :: rest) scope dV kV doc pm an cdv ct) ⟨vs,[]⟩ = pure (ps.zip vs))
  (hco : scope.isCoroutine = false) (hgen : scope.isGenerator = false) (hk : scope.kind = .function) (hnc : ((cellsFrom 0 scope.names []).map (·.1)).Nodup) (hnd : (scope.names.map (·.1)).Nodup) (hpn : ps.Nodup)
  (hps : scope.names.take ps.length = ps.map fun x => (x,NameKind.local)) (hlk : (ps.all fun x => scope.names.lookup x == some .local) = true)
  (h0 : SS ⟨scope.names,true,true,true,n,ownN scope.names,cdv⟩ s0 f0) (h1 : SS ⟨scope.names,true,true,true,n,ownN scope.names,cdv⟩ s1 f1) (ht : ST ⟨scope.names,true,true,true,n,ownN scope.names,cdv⟩ test ft)
  (hxg : scope.names.lookup x = some .globalImplicit) (hxd : (x == ("__debug__" : Str)) = false) (hC : ∀ P,nsIn (hd.heap_1 P) mainGlobals x = some (some (.ref C))) (hexc : ∀ P,excIn (hd.heap_1 P) C bmVE "ValueError.__new__" = true)
  (hok : ∀ xs,ok xs → xs.length = ps.length) (e0 : ∀ xs h,ok xs → f0 ⟨env0 xs k,h⟩ = some (.next,⟨E1 xs,h⟩)) (e1 : ∀ xs h,ok xs → f1 ⟨E1 xs,h⟩ = some (.next,⟨E2 xs,h⟩)) (e2 : ∀ xs h,ok xs → ft ⟨E2 xs,h⟩ = some (true,⟨E3 xs,h⟩)) :
  Throws (n + 1) f C ms ok := by
 intro cx tm hfn hh hl σ xs hxs r s vs hvs R RR hq
 have hxl := hok xs hxs
 have hvl : vs.length = ps.length := hvs.1.trans hxl
 have hlk' : ∀ x ∈ ps,scope.names.lookup x = some .local := fun x hx => by simpa using List.all_eq_true.mp hlk x hx
 have hroom : cx.A.depth < recursionLimit := by
  have := cx.hk.1
  have := cx.hlim
  unfold recursionLimit
  exact ar9 ‹_› ‹_›
 refine (enterMC (led := r.fl) (K := hd.heap_1 cx.w.params) (R.below tm) (R.X.keeps (R.off tm).1.keep) (R.T.keeps (R.off tm).1.keep) (fun q hq => (R.N q (mL _ (by rw [mu_mut tm]; exact mR _ hq))).1) (ho _) (hcd _) hroom
  (BindsTo.of_eq (hb vs hvl)) (List.all_eq_true.mpr fun y hy => by rw [hlk' _ (List.of_mem_zip (a := y.1) (b := y.2) hy).1]; rfl) hnc (fun g L' h₁ tk cells hg F' N' NC lo hi Y => ?_) hco hgen hk)
 have X : Ent cx r s scope.names g L' h₁ (bindL (envOfC qual scope L' f cdv).kindOf (ps.zip vs) fun _ => none) [] cells (env0 xs k) := by
  refine ⟨hg,F',fun p hp => (mA hp).elim (NC p) (N' p),fun p hp q hq => (nomatch hq),fun p hp => (nomatch hp),fun i a e => ?_,?_,fun p hp q hq => ?_,fun q hq => ?_⟩
  ·have e' := env0_get e
   have hi : i < ps.length := by rw [← hxl]; exact (List.getElem?_eq_some_iff.mp e').1
   have h1 : ps[i]? = some ps[i] := List.getElem?_eq_getElem hi
   have h2 : vs[i]? = some (vs[i]'(by rw [hvl]; exact hi)) := List.getElem?_eq_getElem _
   refine ⟨ps[i],_,?_,hlk' _ (List.getElem_mem hi),bindL_zip (fun x hx => hlk' x hx) hpn hvl h1 h2,?_⟩
   ·have := congrArg (·[i]?) hps
    simp only [List.getElem?_take,hi,if_true,List.getElem?_map,h1] at this
    exact this
   ·subst hg; exact RV.enter R tm (hvs.2 i _ _ h2 e')
  ·rw [cellsAre_fst Y]
   exact cellsFrom_apart scope.names List.nodup_nil fun q hq => (nomatch hq)
  ·have hq' : q ∈ r.fl := by simpa using hq
   exact Nat.ne_of_gt (Nat.lt_trans (lo q hq') (hi p hp))
  ·obtain ⟨o,h1,h2⟩ := cellsAre_mem Y (mem_of_lookup (ownOf_cells hnd hq))
   exact ⟨o,_,h1,h2⟩
 have sg : (cCx cx qual scope L' f cdv g hk hnd hl).sig = ⟨scope.names,true,true,true,n,ownN scope.names,cdv⟩ := by
  show Sig.mk _ _ cx.hand _ _ ((ownOf (L' + 1) scope.names).map (·.1)) _ = _
  rw [ownOf_fst,hh]; rfl
 have R1 := own_enter (qual := qual) (f := f) (cd := cdv) (tk := tk) R tm hl hk hnd X
 refine wpAny_execs_cons (h0.run (cCx cx qual scope L' f cdv g hk hnd hl) sg _ _ _ (e0 xs _ hxs) _ _ R1 _ _ fun r2 s2 cf g2 R2 rf => ?_)
 obtain rfl := rf.next_inv
 refine wpAny_execs_cons (h1.run (cCx cx qual scope L' f cdv g hk hnd hl) sg _ _ _ (e1 xs _ hxs) _ _ R2 _ _ fun r3 s3 cf g3 R3 rf => ?_)
 obtain rfl := rf.next_inv
 refine wpAny_execs_cons (wpAny_If (ht.run (cCx cx qual scope L' f cdv g hk hnd hl) sg _ _ _ (e2 xs _ hxs) _ _ R3 _ _ fun r4 s4 g4 R4 => ?_))
 have O := own_of_in R4.X R4.T (hC _) (hexc _)
 refine hide fun gg hgg => ?_
 obtain ⟨tl,N,nm,q,bs,hdct,sn,sub,ab,col,dd,k0,k1,k2,k3,k5,mN,hCo,hN,hni,T⟩ := O.obj
 refine hgg ?_
 clear hgg gg
 have he : ∀ env,starEach [.Constant (.str ms) kk mp] env = (false,eval (.Constant (.str ms) kk mp) env) :: starEach [] env := by intro env; with_unfolding_all rfl
 show wpAny _ _ (execs [.Raise (some (.Call (.Name x np) [.Constant (.str ms) kk mp] [] cpos)) none rpos] _) _ _ _
 refine wpAny_execs_cons (wpAny_Raise_call_subT (C := C) (nm := nm) (q := q) (N := N) (bs := bs) (bm := tl) (hdct := hdct) (sn := sn) (sub := sub) (ab := ab) (col := col) (dd := dd) (k0 := k0) (k1 := k1) (k2 := k2) (k3 := k3) (k5 := k5) PySem.F.excBase_ValueError (mN := mN) (T.hasType rfl) (cx.hh hh) (by rw [he]; rfl) hni
  (nmK R4.Fe R4.X R4.T (hC _) ⟨rfl,?_⟩ rfl hk hxg hxd))
 rw [he]
 refine Calls.evalArgs_plain (Calls.spliced_cons (wpAny_Constant_str (k := kk) (pos := mp) (Calls.spliced_nil ?_)))
 refine ⟨rfl,by rw [sizeLine_eq]; simp,R4.F.keep _ _ hCo,hN.keeps R4.F.keep,T.keeps R4.F.keep,fun h' e hm => ?_⟩
 have KB : Below cx.A cx.base cx.stk r4.K.h0 := R4.G.2
 have T4 : KtsTurn (frs cx.stk) g r4.K.h0 := R4.G.1
 have K' := pushX (env := envOfC qual scope L' f cdv) KB R4.F rfl hk
 have F0 := (R.off tm).1
 rw [← hg] at F0
 have hin : ∀ env ∈ (envOfC qual scope L' f cdv :: cx.stk),∀ b,env.frame = some b → b ∈ frs (envOfC qual scope L' f cdv :: cx.stk) := fun env he b hb => List.mem_filterMap.mpr ⟨env,he,hb⟩
 have mem2 : ∀ {b},b ∈ frs (envOfC qual scope L' f cdv :: cx.stk) → b = L' ∨ b ∈ frs cx.stk := fun {b} hm => by
  obtain ⟨env,he,hf⟩ := List.mem_filterMap.mp hm
  rcases List.mem_cons.mp he with rfl | he
  ·exact .inl (Option.some.inj hf).symm
  ·exact .inr (List.mem_filterMap.mpr ⟨env,he,hf⟩)
 have U1 : g.UpToSlots s4.heap := fun b o e _ => by
  obtain ⟨sl,h⟩ := T4.up e
  exact ⟨sl,R4.F.keep _ _ h⟩
 refine wpAny_leaves_madeW (base := hideAll s4.heap (frs (envOfC qual scope L' f cdv :: cx.stk))) K'.stack rfl (fun b o q => of_hideAll _ q) (funFrames_hide K'.frames hin) hm fun h'' t x1 x2 x3 x4 => ?_
 have U2 : g.UpToSlots h'' := (U1.trans (Heap.UpToSlots.of_keeps hm.keeps)).trans x4
 have toB : ∀ b o,r4.K.h0.get? b = some o → b ∉ frs cx.stk → (hideAll s4.heap (frs (envOfC qual scope L' f cdv :: cx.stk))).get? b = some o := fun b o e nm => hideAll_get _ (R4.F.keep _ _ e) fun hm => by
  rcases mem2 hm with h | h
  ·have z := kts_self R4.F
   rw [h] at e
   exact absurd (e.symm.trans z) (by simp)
  ·exact nm h
 refine cx.hfnE hfn fun A₀ outer nme scp a0 cd0 henv how hA gO gK hstk => ?_
 have hout := (gO _ R.G).frames
 refine hq e t _ _ { s4 with heap := h'',toks := _ } (cx.sT _ _ _ (cx.sS s h₁ tk) (cx.sT _ _ _ (((g2.trans g3).trans g4).S ⟨tm,hfn⟩) (cx.sS s4 _ _))) ⟨x1,x2,fun b o e nm => toB b o (T4.other _ _ (F0.keep _ _ e) nm) nm,fun b o e hd => U2 b o (F0.keep _ _ e) hd,U2.ns F0.ns,fun p hp => ?_⟩
 by_cases hpf : p ∈ r.fl
 ·have osq : r4.os = r.os := os_same (hp := σ.heap) R.len R4.len ((g2.trans g3).trans g4).ver
  have hp4 : p ∈ r4.mu (cCx cx qual scope L' f cdv g hk hnd hl) := by
   rw [mu_mut rfl]
   refine mR _ ?_
   unfold Rt.fl
   rw [osq]; exact hpf
  obtain ⟨n1,n2,n3⟩ := R4.N p (mL _ hp4)
  refine hideAll_get _ n1 fun hm => ?_
  rcases mem2 hm with h | h
  ·exact n2 h
  ·obtain ⟨_,o,ho,_⟩ := KB.frames.mem h
   rw [n3] at ho; cases ho
 ·have hp' : p ∈ r.cs ++ (r.K.fz ++ r.it) := by
   rw [mu_mut tm] at hp
   simp only [List.mem_append] at hp ⊢
   rcases hp with (h | h) | h
   ·exact .inl h
   ·exact absurd h hpf
   ·exact .inr h
  have z := (R.off tm).2 p hp'
  rw [← hg] at z
  obtain ⟨n1,n2,n3⟩ := R.N p hp
  have nf : p.1 ∉ frs cx.stk := fun hm => by
   rw [hstk] at hm
   obtain ⟨env,he,hf⟩ := List.mem_filterMap.mp hm
   rcases List.mem_cons.mp he with rfl | he
   ·rw [henv] at hf
    exact n2 (Option.some.inj hf).symm
   ·obtain ⟨_,o,ho,_⟩ := hout.mem (List.mem_filterMap.mpr ⟨env,he,hf⟩)
    rw [n3] at ho; cases ho
  exact toB _ _ (T4.other _ _ z nf) nf
end
section
variable {ns : Sig} {cx : Cx} {r : Rt} {σ : St} {s : Shared}
theorem RelP.remap (R : RelP cx r σ) {m' : Str → Option Value} (hm : ∀ (k : Nat) (av : AV) x kd,σ.env[k]? = some (some av) → cx.names[k]? = some (x,kd) → m' x = r.m x) : RelP cx { r with m := m' } σ := by
 refine ⟨R.nd,R.dj,R.di,R.pl,R.lv,R.G,R.kh,fun k av e => ?_,R.len,R.H,R.cc⟩
 obtain ⟨x,kd,v,h1,h2,h3,h4⟩ := R.E k av e
 refine ⟨x,kd,v,h1,h2,?_,h4⟩
 rcases h3 with ⟨h5,h6⟩ | h3
 ·exact .inl ⟨h5,by rw [← h6]; exact hm k av x kd e h1⟩
 ·exact .inr h3
noncomputable def toldMs : Str := Str.ofString "covariance requires at least two data points"
noncomputable def isOne (a : AV) : Bool := match a with
 | .fl xs => xs.length == 1
 | _ => false
theorem isOne_inv {a : AV} (h : isOne a = true) : ∃ x,a = .fl [x] := by
 cases a with
 | fl xs =>
  rcases xs with _ | ⟨x,_ | ⟨y,r⟩⟩
  ·cases h
  ·exact ⟨x,rfl⟩
  ·simp [isOne] at h
 | _ => cases h
noncomputable def fTold (F : List AV → St → Option (AV × St)) (σ : St) : Option (AF × St) := getE 0 σ >>= fun a => getE 1 σ >>= fun b => if (σ.env.length == 3 && (getE 2 σ).isNone) = true then (if (isOne a && isOne b) = true then some (.ret (.str toldMs),σ) else F [a,b] σ >>= fun p => some (.ret p.1,p.2)) else none
theorem env3 {e : List (Option AV)} {h : List (AO × Nat)} {a b : AV} (h0 : getE 0 ⟨e,h⟩ = some a) (h1 : getE 1 ⟨e,h⟩ = some b) (hl : (e.length == 3 && (getE 2 ⟨e,h⟩).isNone) = true) : e = [some a,some b,none] := by
 rcases e with _ | ⟨x,_ | ⟨y,_ | ⟨z,_ | ⟨u,r⟩⟩⟩⟩
 ·cases h0
 ·cases h1
 ·cases hl
 ·have e0 : x = some a := h0
  have e1 : y = some b := h1
  have e2 : (z.isNone) = true := hl
  rw [e0,e1,Option.isNone_iff_eq_none.mp e2]
 ·simp at hl
theorem fTold_inv {F : List AV → St → Option (AV × St)} {σ : St} {q : AF × St} (h : fTold F σ = some q) : ∃ a b,σ.env = [some a,some b,none] ∧ ((∃ x y,a = .fl [x] ∧ b = .fl [y] ∧ q = (AF.ret (.str toldMs),σ)) ∨ (F [a,b] σ >>= fun p => some (AF.ret p.1,p.2)) = some q) := by
 obtain ⟨a,h0,h⟩ := bS h
 obtain ⟨b,h1,h⟩ := bS h
 by_cases hl : (σ.env.length == 3 && (getE 2 σ).isNone) = true
 ·rw [if_pos hl] at h
  refine ⟨a,b,env3 h0 h1 hl,?_⟩
  by_cases ho : (isOne a && isOne b) = true
  ·rw [if_pos ho] at h
   rw [Bool.and_eq_true] at ho
   obtain ⟨x,hx⟩ := isOne_inv ho.1
   obtain ⟨y,hy⟩ := isOne_inv ho.2
   cases h
   exact .inl ⟨x,y,hx,hy,rfl⟩
  ·rw [if_neg ho] at h
   exact .inr h
 ·rw [if_neg hl] at h; cases h
noncomputable def okOne (xs : List AV) : Prop := ∃ x y,xs = [.fl [x],.fl [y]]
set_option maxHeartbeats 1000000 in
theorem ss_told {xp p1 p2 p3 cp rp np hp sp c2 rp2 pos : Pos} {n : Nat} {F : List AV → St → Option (AV × St)} (hF : Fn n 69 F) (hT : Throws n 69 59 toldMs okOne) (hns : ns = ⟨[(Str.ofString "one",.local),(Str.ofString "two",.local),(Str.ofString "error",.local),(Str.ofString "covariance",.globalImplicit),(Str.ofString "StatisticsError",.globalImplicit),(Str.ofString "str",.globalImplicit)],true,true,true,n,[],ns.cd⟩)
  :
  SS ns (.Try [.Return (some (.Call (.Name (Str.ofString "covariance") xp) [.Name (Str.ofString "one") p1,.Name (Str.ofString "two") p2] [] cp)) rp]
   [.ExceptHandler (some (.Name (Str.ofString "StatisticsError") np)) (some (Str.ofString "error")) [.Return (some (.Call (.Name (Str.ofString "str") sp) [.Name (Str.ofString "error") p3] [] c2)) rp2] hp] [] [] pos) (fTold F) := by
 refine ⟨?_⟩
 intro cx hn σ v σ' hf r s R Q E hq
 have tm : cx.tm = true := tmOf hn (by rw [hns])
 have hfn : cx.fn = true := by have : ns.fn = true := (by rw [hns]); rw [← hn] at this; exact this
 have hh : cx.hand = true := by have : ns.hand = true := (by rw [hns]); rw [← hn] at this; exact this
 have hl : cx.lim = n := by rw [limOf hn,hns]
 have hown : cx.own = [] := by
  have : ns.own = [] := by rw [hns]
  rw [← hn] at this
  exact List.map_eq_nil_iff.mp this
 have hnm : cx.names = [(Str.ofString "one",.local),(Str.ofString "two",.local),(Str.ofString "error",.local),(Str.ofString "covariance",.globalImplicit),(Str.ofString "StatisticsError",.globalImplicit),(Str.ofString "str",.globalImplicit)] := by rw [nO hn,hns]
 have callE : ∀ env,eval (.Call (.Name (Str.ofString "covariance") xp) [.Name (Str.ofString "one") p1,.Name (Str.ofString "two") p2] [] cp) env = (do callWith cp (← eval (.Name (Str.ofString "covariance") xp) env) [] (backTo cp (starEach [.Name (Str.ofString "one") p1,.Name (Str.ofString "two") p2] env)) (backToKw cp (keywordEach [] env))) := by intro _; with_unfolding_all rfl
 have st1 : ∀ env,starEach [.Name (Str.ofString "one") p1,.Name (Str.ofString "two") p2] env = (false,eval (.Name (Str.ofString "one") p1) env) :: starEach [.Name (Str.ofString "two") p2] env := by intro _; with_unfolding_all rfl
 have st2 : ∀ env,starEach [.Name (Str.ofString "two") p2] env = (false,eval (.Name (Str.ofString "two") p2) env) :: starEach [] env := by intro _; with_unfolding_all rfl
 have ha := sa_cons (ns := ns) (se_name (k := 0) (pos := p1) (by rw [hns]; rfl) rfl) (sa_cons (se_name (k := 1) (pos := p2) (by rw [hns]; rfl) rfl) sa_nil st2) st1
 refine wpAny_mono (Q := Q) (E := fun _ _ => False) ?_ (fun _ _ h => h) (fun _ _ h => h.elim)
 refine wpAny_Try_except ?_
 refine hide fun gg hgg => ?_
 obtain ⟨a,b,henv0,hf⟩ := fTold_inv hf
 rcases hf with ⟨x,y,rfl,rfl,hf⟩ | hf
 ·cases hf
  obtain ⟨senv,sheap⟩ := σ
  obtain rfl : senv = _ := henv0
  refine cx.hfnE hfn fun A₀ outer name scope a0 cd henv how hA gO gK hstk => ?_
  have henv : cx.env = envOf name scope cx.L a0 cd := by
   rw [henv]
   refine envC_plain (plain_own (n := cx.L + 1) ?_)
   rw [← how]
   exact hown
  have hsc : scope.names = cx.names := by unfold Cx.names; rw [henv]; rfl
  have hke : ∀ {x : Str} {kd : NameKind},cx.names.lookup x = some kd → (envOf name scope cx.L a0 cd).kindOf x = some kd := fun {x kd} h => by
   show scope.names.lookup x = _
   rw [hsc]; exact h
  have hkf : scope.kind = .function := by have := cx.hf; rw [henv] at this; exact this
  refine hgg ?_
  clear hgg gg
  refine wpAny_execs_cons (wpAny_Return_some ?_)
  refine Call_ (nmK R.Fe R.X R.T (x := Str.ofString "covariance") (v := .ref 69) (by rfl) ?_ cx.hg cx.hf (show cx.names.lookup _ = _ by rw [hnm]; rfl) rfl) (callE _)
  refine callWith_K (K := hd.heap_1 cx.w.params) R.X (by rfl) ?_ (st1 _) (by rw [st2]; rfl)
  refine ha.run cx hn _ [.fl [x],.fl [y]] _ rfl r s R _ _ _ fun r1 s1 cv g1 R1 rv => ⟨R1.Xs,?_⟩
  refine wpAny_call (hT cx tm hfn hh hl _ _ ⟨x,y,rfl⟩ r1 s1 _ rv R1 _ fun e t u B s' hS th => ?_)
  have hfl := th.fl
  have hgB := th.gB
  rw [hstk,henv] at hfl
  rw [hstk] at hgB
  have hselfg := kts_self R1.F
  have hgB' : ∀ b o,r1.K.h0.get? b = some o → b ∉ frs outer → B.get? b = some o := fun b o e nm => hgB b o e fun hm => by
   obtain ⟨env,he,hf⟩ := List.mem_filterMap.mp hm
   rcases List.mem_cons.mp he with rfl | he
   ·rw [henv] at hf
    obtain rfl : cx.L = b := Option.some.inj hf
    rw [hselfg] at e; cases e
   ·exact nm (List.mem_filterMap.mpr ⟨env,he,hf⟩)
  have hQ := hq
  show wpAny (model prg cx.w) cx.A (noteFrame (.ref e) cx.env) _ _ s'
  rw [henv] at hA ⊢
  rw [hA]
  refine caught_own (gO _ R1.G) hfl th.tup hgB' th.up th.ns R1.F.above cx.XB cx.TB (KF := hd.heap_1 cx.w.params) (by rfl) (by kernel_rfl) (fun h₆ h' g' oe ws tk T' F6 B6 F' K' B' hoe hc hdd h0 ht => ?_) hkf (hke (by rw [hnm]; rfl)) (hke (by rw [hnm]; rfl)) rfl
  have X' : (hd.heap_1 cx.w.params).In g' := cx.XB.keeps K'.stays
  refine wpAny_execs_cons (wpAny_Return_some ?_)
  refine Call_ (nmB F' X' (cx.TB.keeps K'.stays) (x := Str.ofString "str") (v := .type "str") (by rfl) (by boot_fast) (by decide) ?_ (by have := cx.hg; rw [henv] at this; exact this) (by have := cx.hb; rw [henv] at this; exact this) hkf (hke (by rw [hnm]; rfl)) rfl) (by with_unfolding_all rfl)
  refine PyProof.Rows.callWith_type1 ?_ (by with_unfolding_all rfl) (by with_unfolding_all rfl)
  refine args_cons (nmL F' (x := Str.ofString "error") (v := .ref e) (by rw [if_pos rfl]) (args_nil ?_) hkf (hke (by rw [hnm]; rfl)) rfl) (by with_unfolding_all rfl)
  refine str_own ?_ (X'.keeps F'.keep) hoe hc hdd h0 ht (by kernel_rfl) (by kernel_rfl) ?_
  ·have h1 := cx.hk.2
   have h2 := cx.hlim
   rw [hA] at h1
   have h3 : ((A₀.deeper (envOf name scope cx.L a0 cd)).mark (some (.ref e))).in1.in1.units ≤ (A₀.deeper (envOf name scope cx.L a0 cd)).units + 9 := by
    first | exact Nat.add_le_add_left (by decide) _ | (simp [Around.in1]; done) | (simp [Around.in1,Around.mark]; omega)
   unfold cLine
   lia
  ·refine wpAny_nameGoes_keeps (hke (by rw [hnm]; rfl)) F'.ns (by simp [envOf,hkf]) fun h₈ w hn₈ hs₈ => ?_
   have neL : ∀ p ∈ r1.mu cx ++ (r1.K.fz ++ r1.it),p.1 ≠ cx.L := fun p hp => (R1.N p hp).2.1
   obtain ⟨G',Tn'⟩ := gK _ _ R1.G T' K'
   obtain ⟨Rg,Gg⟩ := R1.ground (tk := s1.toks) G' Tn' F6 (fun p hp => ⟨B6 _ _ (th.all p hp),neL p hp,T'.none_ _ (R1.N p hp).2.2⟩) tm
   refine hq { r1 with K := { r1.K with h0 := g' },m := fun x => if x = Str.ofString "error" then w else if x = Str.ofString "error" then some (Value.ref e) else r1.m x } _ _ (g1.trans ⟨⟨Gg.K,Gg.γ,Gg.tn⟩,⟨Gg.ver,Gg.it,Gg.cs⟩,cx.sT _ _ _ hS (cx.sS s' h₈ _),Gg.os⟩) ⟨Rg.toRelP.remap (m' := fun x => if x = Str.ofString "error" then w else if x = Str.ofString "error" then some (Value.ref e) else r1.m x) ?_,⟨hn₈,fun b o e3 => hs₈.extBut b o (fun z => ?_) (F'.keep b o e3),F'.above⟩,fun p hp => ⟨hs₈.extBut _ _ (neL p hp) (B' _ _ (th.all p hp)),neL p hp,T'.none_ _ (R1.N p hp).2.2⟩⟩ (.ret _ _ (.str _ _))
   ·intro k av x kd e1 e2
    rw [hnm] at e2
    rcases k with _ | _ | _ | k
    ·cases e2; rfl
    ·cases e2; rfl
    ·cases e1
    ·simp at e1
   ·have z' := kts_self F'
    rw [show b = cx.L from z] at e3
    exact absurd (e3.symm.trans z') (by simp)
 ·obtain ⟨⟨fv,σ1⟩,e1,e2⟩ := bS hf
  replace hq := hq.eq e2
  obtain ⟨senv,sheap⟩ := σ
  obtain rfl : senv = _ := henv0
  refine hgg ?_
  clear hgg gg
  refine wpAny_execs_cons (wpAny_Return_some ?_)
  have hcal := se_callF (ns := ns) (x := Str.ofString "covariance") (xp := xp) (pos := cp) hF ⟨by rw [hns],by rw [hns],by rw [hns],by rw [hns]⟩ ha (by rw [hns]; rfl) (fun P => by rfl) rfl (fun P => by rfl)
  refine hcal.run cx hn _ fv σ1 ?_ r s R _ _ fun r1 s1 cv g1 R1 rv => ?_
  ·exact e1
  ·exact hq r1 s1 _ g1 R1 (.ret _ _ rv)
end
noncomputable def topCx (w : World) (qual : Str) (scope : Scope) (L' f : Addr) (cd : Value) (g : Heap) (p : Program) (loose : List Str) (mg mb : Str → Option Value) (hk : scope.kind = .function) (hnd : (scope.names.map (·.1)).Nodup) (XB : (hd.heap_1 w.params).In g) (TB : TopRead p loose mg mb g) (bm : ∃ b ob,BMod g mainGlobals mg b ob) : Cx where
 w := w
 A := callerA.deeper (envOfC qual scope L' f cd)
 env := envOfC qual scope L' f cd
 L := L'
 base := g
 stk := [envOfC qual scope L' f cd]
 k := 302
 lim := 40
 tm := true
 hand := true
 fn := true
 G := fun h => KtsTurn (frs []) g h ∧ Below callerA g [] h
 Tn := KtsTurn (frs [])
 S := fun a b => b.os = a.os ∧ (AllBare a.gens → AllBare b.gens)
 p := p
 loose := loose
 mg := mg
 mb := mb
 own := ownOf (L' + 1) scope.names
 ndn := hnd
 hh := fun _ => rfl
 hk := ⟨show 302 ≤ 302 from Nat.le_refl _,show 7 ≤ 302 by decide⟩
 hlim := by decide
 hL := rfl
 hf := hk
 hg := rfl
 hb := rfl
 XB := XB
 TB := TB
 bm := bm
 gS := fun h q => q.2.stays
 gB := fun h0 h m q F => pushX q.2 F rfl hk
 hfn := fun _ => ⟨callerA,[],qual,scope,f,cd,⟨rfl,rfl⟩,rfl,fun h q => q.2,fun h h' q T B => ⟨⟨q.1.trans T,B⟩,T⟩,rfl⟩
 sS := fun s h tk => ⟨rfl,fun x => x⟩
 sG := fun _ _ s h tk gs q => ⟨rfl,q⟩
 sT := fun a b c x y => ⟨y.1.trans x.1,fun q => y.2 (x.2 q)⟩
 tr := fun _ => .refl
 tt := fun _ _ _ a b => a.trans b
 tl := fun _ _ T _ _ e => T.up e
 oc := fun q h => ownOf_cells hnd h
 oi := fun x y c h1 h2 h3 => ownOf_inj (acc := []) h2 h3 fun d hd => (nomatch hd)
noncomputable def LawAt (f : Addr) (k : Nat) (den : St → Option (AF × St)) : Prop := ∀ (w : World) (s : Shared) (p : Program) (loose : List Str) (mg mb : Str → Option Value) (l : Addr) (vs : List Value) (ns : List Int) (v : AV),
 (hd.heap_1 w.params).In s.heap → TopRead p loose mg mb s.heap → (∃ b ob,BMod s.heap mainGlobals mg b ob) → Tab s.heap #[] → cStatics ≠ 64 → IsLd s.heap l vs → IntsAre vs ns →
 (∃ σ' n,den ⟨env0 [.fl (ns.map .int)] k,[(.tbl,0)]⟩ = some (.ret v,σ') ∧ σ'.heap[0]? = some (.tbl,n)) → ∀ (Q : Value → Shared → Prop) (E : Value → Shared → Prop),
 (∀ K γ cv s',RV K γ cv v → OldK s.heap s'.heap → s'.os = s.os → (AllBare s.gens → AllBare s'.gens) → Q cv s') → wpAny (model prg w) callerA (call (.ref f) [.ref l]) Q E s
theorem ints_rv {K : Kno} {γ : List Addr} {vs : List Value} {ns : List Int} (h : IntsAre vs ns) (i : Nat) (v : Value) (x : AV) (e1 : vs[i]? = some v) (e2 : (ns.map AV.int)[i]? = some x) : RV K γ v x := by
 rw [List.getElem?_map] at e2
 obtain ⟨n,hn,rfl⟩ := Option.map_eq_some_iff.mp e2
 obtain ⟨t,ht⟩ := h.get i n hn
 rw [e1] at ht
 cases ht
 exact .int n t
theorem RF.ret_inv {K : Kno} {γ : List Addr} {cf : Flow} {x : AV} (h : RF K γ cf (.ret x)) : ∃ v,cf = .ret v ∧ RV K γ v x := by cases h; exact ⟨_,rfl,‹_›⟩
noncomputable abbrev B64 (h : Heap) : Heap := off h [((64 : Addr),tblO #[])]
noncomputable abbrev R64 (h : Heap) (m : Str → Option Value) (cells : Led) : Rt := ⟨⟨fun a => ∃ o,(B64 h).get? a = some o,B64 h,[]⟩,m,cells,[(64,[((64 : Addr),tblO #[])])],[]⟩
set_option maxHeartbeats 1000000 in
theorem law_at {f : Addr} {k : Nat} {x : Str} {name qual : Str} {params : Arguments} {body : List Stmt} {scope : Scope} {dV kV doc pm cdv ct oc : Value} {an od : Option Addr} {osl : Array (Option Value)} {den : St → Option (AF × St)}
  (ho : ∀ P,(hd.heap_1 P).lookup f = some ⟨oc,od,.func (fnOf name qual params body scope dV kV doc pm an cdv ct),osl⟩) (hcd : ∀ P,codeIn (hd.heap_1 P) cdv qual = true) (h64 : ∀ P,(hd.heap_1 P).lookup 64 = none)
  (hb : ∀ v : Value,bindArgs (fnOf name qual params body scope dV kV doc pm an cdv ct) ⟨[v],[]⟩ = pure [(x,v)])
  (hco : scope.isCoroutine = false) (hgen : scope.isGenerator = false) (hk : scope.kind = .function) (hnc : ((cellsFrom 0 scope.names []).map (·.1)).Nodup) (hnd : (scope.names.map (·.1)).Nodup)
  (hx0 : scope.names[0]? = some (x,.local)) (hxl : scope.names.lookup x = some .local) (H : SB ⟨scope.names,true,true,true,40,ownN scope.names,cdv⟩ body den) : LawAt f k den := by
 intro w s p loose mg mb l vs ns v KX T BM Tb hs64 hl hi hden Q E hq
 obtain ⟨σ',nn,hden,hfin⟩ := hden
 have g64 := Tb.tab.2
 have nh : ∀ {b : Addr} {o : Obj},b ≠ 64 → s.heap.get? b = some o → (B64 s.heap).get? b = some o := fun {b o} hb e => hideAll_get _ e (by simpa using hb)
 have ne64 : ∀ {b : Addr} {o : Obj},s.heap.get? b = some o → o.cls ≠ .none → b ≠ 64 := fun e hc q => by
  rw [q,g64] at e; cases e; exact hc rfl
 have nd64 : ∀ {b : Addr} {o : Obj} {es n},s.heap.get? b = some o → o.data = .dict es n → b ≠ 64 := fun e hc q => by
  rw [q,g64] at e; cases e; cases hc
 have nsK : ∀ {b : Addr} {m : Str → Option Value},s.heap.Ns b m → (B64 s.heap).Ns b m := fun {b m} N => by
  obtain ⟨o,es,ep,h1,h2,h3⟩ := N
  exact ⟨o,es,ep,nh (nd64 h1 h2) h1,h2,h3⟩
 have XB : (hd.heap_1 w.params).In (B64 s.heap) := fun b o e => nh (fun q => by rw [q,h64] at e; cases e) (KX b o e)
 have TB : TopRead p loose mg mb (B64 s.heap) := ⟨nsK T.g,nsK T.b,let ⟨mc,h1,h2⟩ := T.nolimit; ⟨mc,nsK h1,h2⟩,T.builtins,T.free⟩
 have BB : ∃ b ob,BMod (B64 s.heap) mainGlobals mg b ob := by
  obtain ⟨b,ob,h1,h2,h3,h4,h5,h6,h7⟩ := BM
  exact ⟨b,ob,nsK h1,h2,h3,nh (ne64 h4 (by rw [h5]; simp)) h4,h5,h6,h7⟩
 refine wpAny_call (enterMC (led := [((64 : Addr),tblO #[])]) (K := hd.heap_1 w.params) (base := B64 s.heap) (outer := []) (below_caller _) XB TB (fun q hq => by rw [List.mem_singleton.mp hq]; exact g64) (ho _) (hcd _) (by decide)
  (BindsTo.of_eq (hb _)) (by simp [hxl]) hnc (fun g L' h₁ tk cells hg F' N' NC lo hi' Y => ?_) hco hgen hk)
 subst hg
 have lt64 : (64 : Nat) < L' := lo _ (List.mem_singleton.mpr rfl)
 have hnl : IsLd (B64 s.heap) l vs := by
  obtain ⟨o,h1,h2,h3⟩ := hl
  exact ⟨o,nh (ne64 h1 (by rw [h2]; simp)) h1,h2,h3⟩
 have fl0 : Rt.fl (R64 s.heap (bindL (envOfC qual scope L' f cdv).kindOf [(x,.ref l)] fun _ => none) cells) = [((64 : Addr),tblO #[])] := rfl
 have R0 : Rel (topCx w qual scope L' f cdv (B64 s.heap) p loose mg mb hk hnd XB TB BB) (R64 s.heap (bindL (envOfC qual scope L' f cdv).kindOf [(x,.ref l)] fun _ => none) cells)
   ⟨env0 [.fl (ns.map .int)] k,[(.tbl,0)]⟩ { s with heap := h₁,toks := tk } := by
  refine ⟨⟨?_,fun p hp q hq => (nomatch hq),fun p hp => (nomatch hp),fun p hp => (nomatch hp),fun q => (nomatch (show true = false from q)),⟨.refl,below_caller _⟩,fun a ha => ha,fun i av e => ?_,rfl,fun i ao n e => ?_,fun q hq => ?_⟩,F',fun q hq => ?_⟩
  ·rw [mu_mut rfl,List.map_append,List.nodup_append]
   refine ⟨?_,by rw [fl0]; simp,fun a ha b hb e => ?_⟩
   ·show (cells.map (·.1)).Nodup
    rw [cellsAre_fst Y]
    exact cellsFrom_apart scope.names List.nodup_nil fun q hq => (nomatch hq)
   ·obtain ⟨c,hc,rfl⟩ := List.mem_map.mp ha
    rw [fl0] at hb
    have hb : b = 64 := by simpa using hb
    have := hi' c hc
    rw [e,hb] at this
    exact absurd (Nat.lt_trans this lt64) (Nat.lt_irrefl _)
  ·have e' := env0_get e
   rcases i with _ | i
   ·cases e'
    refine ⟨x,.local,.ref l,hx0,hxl,.inl ⟨rfl,?_⟩,.fl l vs _ (.inl ⟨let ⟨o,h,_⟩ := hnl; ⟨o,h⟩,hnl⟩) (by rw [List.length_map]; exact hi.length) fun i v x e1 e2 => ints_rv hi i v x e1 e2⟩
    exact bindL_zip (ps := [x]) (vs := [.ref l]) (fun y hy => by rw [List.mem_singleton.mp hy]; exact hxl) (by simp) rfl (i := 0) rfl rfl
   ·cases e'
  ·rcases i with _ | i
   ·cases e
    exact ⟨64,_,rfl,.tbl 64 #[] rfl Tb.ok⟩
   ·cases e
  ·obtain ⟨o,h1,h2⟩ := cellsAre_mem Y (mem_of_lookup (ownOf_cells hnd hq))
   exact ⟨o,_,h1,h2⟩
  ·rw [mu_mut rfl] at hq
   simp only [List.append_nil,List.mem_append] at hq
   rcases hq with h | h
   ·exact NC q h
   ·exact N' q h
 refine wpAny_mono (H.run (topCx w qual scope L' f cdv (B64 s.heap) p loose mg mb hk hnd XB TB BB) ?_ _ _ _ hden _ _ R0 (fun fl s' => Q (match fl with | .ret v => v | _ => .none) s') (fun _ _ => False) fun r1 s1 cf go R1 rf => ?_) (fun fl s' h => h) (fun _ _ h => h.elim)
 ·show Sig.mk _ _ _ _ _ ((ownOf (L' + 1) scope.names).map (·.1)) _ = _
  rw [ownOf_fst]; rfl
 ·obtain ⟨cv,rfl,hcv⟩ := rf.ret_inv
  obtain ⟨a,es,h1,h2⟩ := R1.H 0 _ _ hfin
  obtain ⟨ps,rfl,rfl,hps⟩ := h2.tbl_inv
  have hp : s1.heap.get? 64 = some (tblO ps) := (R1.N _ (mL _ (ento rfl h1 (List.mem_singleton.mpr rfl)))).1
  have T1 : KtsTurn (frs []) (B64 s.heap) r1.K.h0 := go.tn
  have kp : ∀ b o,b ≠ 64 → s.heap.get? b = some o → s1.heap.get? b = some o := fun b o hb e => R1.F.keep _ _ (T1.other _ _ (nh hb e) (by simp [frs]))
  refine hq _ _ _ s1 hcv ?_ go.S.1 go.S.2
  have hc68 : s1.heap.TableAt 68 64 (#[] ++ ps) := by
   rw [Array.empty_append]
   obtain ⟨⟨o,ws,h3,h4,h5,h6⟩,_⟩ := Tb.tab
   exact ⟨⟨o,ws,kp _ _ (ne64 h3 (by rw [h4]; simp)) h3,h4,h5,h6⟩,hp⟩
  exact (OldK.refl s.heap).step_table Tb.tab Tb.tab hc68 (fun b o hb e => kp b o hb e) (Ne.symm hs64)
section
variable {ns : Sig} {cx : Cx} {r : Rt} {σ : St} {s : Shared}
variable {scope : Scope} {cl : List (Str × Addr)} {hk : scope.kind = .function} {hnd : ((relN cx.names scope.names).map (·.1)).Nodup} {ta : AV → St → Option St} {fi : St → Option (Bool × St)} {fe : St → Option (AV × St)} {xs res : List AV} {σe : St} {C D : Addr} {ys : List Value} {r' : Rt} {σ' : St} {ysA : List AV} {news : Led} {h' : Heap} {tk no : Nat}
theorem blk_doneF2 (R : Rel cx r σ s) (J : CJ R scope cl hk hnd ta fi fe xs res σe C xs.length ys r' σ' ysA news) (st : s.heap.StaysIn h') (hp : ∀ p ∈ (D,PySem.W.listOf (List.toArray ys) no) :: news,h'.get? p.1 = some p.2 ∧ s.heap.get? p.1 = none) :
  ∃ r2,Go cx r σ s r2 σ { s with heap := h',toks := tk } ∧ Rel cx r2 σ { s with heap := h',toks := tk } ∧ RV r2.K r2.γ (.ref D) (.fl res) ∧ r2.K.h0 = r.K.h0 ∧ ∀ p ∈ r2.mu cx ++ (r2.K.fz ++ r2.it),p ∈ r.mu cx ++ (r.K.fz ++ r.it) ∨ p ∈ (D,PySem.W.listOf (List.toArray ys) no) :: news := by
 obtain ⟨R1,g1⟩ := R.fzs (tk := tk) (fz' := (D,PySem.W.listOf (List.toArray ys) no) :: r'.K.fz) st (fun p h => by
  rcases List.mem_cons.mp h with rfl | h
  ·exact hp _ (.head _)
  ·exact hp p (.tail _ (J.n1 p (mR _ h)))) (fun p h => by
  rcases List.mem_cons.mp h with rfl | h
  ·exact ⟨rfl,rfl⟩
  ·exact J.P.pl p h)
 have hv := cj_vals J (K2 := { r.K with fz := r.K.fz ++ (D,PySem.W.listOf (List.toArray ys) no) :: r'.K.fz }) rfl rfl (fun p h => mL _ h) (fun p h => mR _ (.tail _ h))
 refine ⟨_,g1,R1,.fl D ys res (.inr ⟨no,mR _ (.head _)⟩) hv.1 hv.2,rfl,fun p hp => ?_⟩
 rcases mA hp with hp | hp
 ·exact .inl (mL _ hp)
 ·rcases mA hp with hp | hp
  ·have hp : p ∈ r.K.fz ++ (D,PySem.W.listOf (List.toArray ys) no) :: r'.K.fz := hp
   rcases mA hp with hp | hp
   ·exact .inl (mR _ (mL _ hp))
   ·rcases List.mem_cons.mp hp with rfl | hp
    ·exact .inr (.head _)
    ·exact .inr (.tail _ (J.n1 p (mR _ hp)))
  ·exact .inl (mR _ (mR _ hp))
end
section
variable {ns : Sig} {cx : Cx} {r : Rt} {σ : St} {s : Shared}
theorem ss_assign_compF {elt target iter : PySem.Expr} {ifs : List PySem.Expr} {scope : Scope} {pos : Pos} {cm : List (Option Nat)} {fs : St → Option (List AV × St)} {ta : AV → St → Option St} {fi : St → Option (Bool × St)} {fe : St → Option (AV × St)} {ns' : Sig} {x : Str} {k : Nat} {pos' spos : Pos}
  (src : Src ns iter fs) (hk : scope.kind = .function) (hnd0 : (scope.names.map (·.1)).Nodup) (hcm : cmOk ns.names scope.names cm = true) (hs' : (⟨relN ns.names scope.names,false,ns.hand,false,ns.lim,ownN scope.names,ns.cd⟩ : Sig) = ns')
  (hta : AS ns' target ta) (hfi : SI ns' ifs fi) (hfe : SE ns' elt fe) (ht : ∀ I v,letOwnedTupleGo target (.ref I) v = pure ()) (hs : ∀ env x,foldedSetIterable iter env x = pure x)
  (hkx : ns.names[k]? = some (x,.local)) (hx : ns.names.lookup x = some .local) (hl : (pos'.line == pos.line) = true) (ha : (scope.names.any fun (n,k) => n == x && (k == .local || k == .cell)) = false) :
  SS ns (.Assign [.Name x pos'] (.ListComp elt [⟨target,iter,ifs,0⟩] scope pos) spos) (fun σ => fComp cm fs ta fi fe σ >>= fun q => some (.next,setE k (.fl q.1) q.2)) := by
 refine ⟨?_⟩
 intro cx hn σ v σ' hf r s R Q E hq
 obtain ⟨⟨res,σ1⟩,e1,e2⟩ := bS hf
 replace hq := hq.eq e2
 have hxk : cx.env.kindOf x = some .local := by show cx.names.lookup x = _; rw [nO hn]; exact hx
 have hsw : swapsWith (.ListComp elt [⟨target,iter,ifs,0⟩] scope pos) (some (.Name x pos')) spos.line cx.env = pure true := by
  rw [swaps_eq,hxk,hl,ha]
  have : cx.env.blockKind = .function := by unfold Env.blockKind; rw [cx.hf]; rfl
  rw [this]; rfl
 obtain ⟨cl,hcl,h⟩ := comp_core (use := some (assign (.Name x pos') cx.env)) (Q := fun _ s' => Q .next s') (pos := pos) src hk hnd0 hcm hs' hta hfi hfe ht hn e1 R fun r1 s1 D ys h tk no R1 cl hnd xs σe C r' σ' ysA news g1 J hD F N => by
  have st : s1.heap.StaysIn h := F.keep
  have hp : ∀ p ∈ (D,PySem.W.listOf (List.toArray ys) no) :: news,h.get? p.1 = some p.2 ∧ s1.heap.get? p.1 = none := fun p hp => ⟨(N p hp).1,(N p hp).2.2⟩
  obtain ⟨r2,g2,R2,rv,hh0,hmem⟩ := blk_doneF2 (tk := tk) R1 J st hp
  have hC1 : s1.heap.get? C = none := fr_none F
  have hLC : cx.L ≠ C := fun q => by
   obtain ⟨o,_,_,ho,_⟩ := R1.F.ns
   rw [q,hC1] at ho; cases ho
  show wpAny _ _ (assign (.Name x pos') cx.env (.ref D)) _ _ _
  refine wpAny_assign_Name (wpAny_storeName_local hxk R2.Fe.ns (fun h₂ hn₂ hs₂ => ?_) (by rw [cx.hf]; rfl))
  replace hs₂ : Heap.SameBut cx.env.locals h h₂ := hs₂
  rw [cx.hL] at hn₂ hs₂
  refine ⟨_,F.ns.sameBut hs₂ (Ne.symm hLC),fun h₃ hs₃ => ?_⟩
  replace hs₃ : Heap.SameBut C h₂ h₃ := hs₃
  have hCn : ∀ p ∈ r2.mu cx ++ (r2.K.fz ++ r2.it),p.1 ≠ C := fun p hp' => by
   rcases hmem p hp' with h1 | h1
   ·intro q
    have := (R1.N p h1).1
    rw [q,hC1] at this; cases this
   ·exact (N p h1).2.1
  have hC0 : r2.K.h0.get? C = none := by
   rw [hh0]
   cases z : r1.K.h0.get? C with
   | none => rfl
   | some o => have := R1.F.keep _ _ z; rw [hC1] at this; cases this
  have F3 : Fr r2.K.h0 cx.L h₃ (fun y => if y = x then some (.ref D) else r2.m y) := ⟨hn₂.sameBut hs₃ hLC,fun b o e => (hs₃.2 b fun q => by rw [q,hC0] at e; cases e).trans ((hs₂.2 b fun q => by rw [q,fr_none R2.F] at e; cases e).trans (R2.F.keep b o e)),R2.F.above⟩
  have N3 : News r2.K.h0 cx.L h₃ (r2.mu cx ++ (r2.K.fz ++ r2.it)) := fun p hp => ⟨(hs₃.2 _ (hCn p hp)).trans ((hs₂.2 _ (R2.N p hp).2.1).trans (R2.N p hp).1),(R2.N p hp).2⟩
  obtain ⟨R3,g3⟩ := R2.setL (k := k) (tk := tk + 1) (by rw [nO hn]; exact hkx) (by rw [nO hn]; exact hx) rv F3 N3
  exact hq _ _ .next ((g1.trans g2).trans g3) R3 .next
 exact wpAny_mono (comp_assign hsw hcl hk (names_fun hnd0) h (hs _)) (fun _ _ h => h) fun _ _ h => h.elim
end
set_option maxRecDepth 100000
set_option maxHeartbeats 1600000
noncomputable def w210 : { F : List AV → St → Option (AV × St) // ∀ n,FnQ (n + 1) 210 F } := by
 refine' ⟨fPure 1 3 _,fun n => fn_quiet (ps := [Str.ofString "script"]) (fun P => rfl) (fun P => ?c1) ?c2 ?c3 ?c4 ?c5 ?c6 ?c7 ?c8 ?c9 ?c10 ?H⟩
 case H =>
  dsimp only
  repeat' (first
   | exact sb_nil
   | refine' sb_cons ?_ ?_
   | refine' ss_return ?_
   | ((with_reducible show SS _ (Stmt.Assign [Expr.Name _ _] _ _) _); first | (refine' sAs ?_ (aN (by rfl)) (by rfl) (by exact fun _ => rfl)) | (refine' sAC ?_ (aN (by rfl)) (by rfl) (by rfl) (by exact fun _ => rfl)))
   | (refine' ss_expr ?_ (by intro env h; unfold interactive; rw [h]; rfl) (by exact fun _ => rfl))
   | (refine' ss_for ?_ ?_ ?_ LoOk.name (by rfl) (by rfl) (by intro _ _; rfl))
   | (first | (refine' se_name (aN (by rfl)) (by decide)) | (refine' se_glob (by rfl) (by exact fun _ => rfl) (by exact fun _ _ => .int _ _) (by decide)))
   | exact se_int
   | exact se_neg
   | (refine' se_upto ?_ ?_)
   | (refine' se_from ?_ ?_)
   | (first | refine' se_sub ?_ ?_ | refine' se_subL ?_ ?_)
   | (refine' se_bin ?_ ?_)
   | ((with_reducible show SE _ (Expr.Call (Expr.Name (Str.ofString "abs") _) _ _ _) _); refine' se_b1 op_abs (by rfl) (by exact fun _ => rfl) (by boot_fast) (by decide) (by decide) ?_)
   | (first | (refine' se_list (by rfl) ?_) | refine' sLF ?_)
   | ((with_reducible show SE _ (Expr.Call (Expr.Attribute _ (Str.ofString "append") _) _ _ _) _); refine' se_meth1 (get_list rfl PySem.F.slot_list_append (by first | rfl | kernel_rfl)) (op_append rfl) ?_ ?_)
   | (refine' as_name (aN (by rfl)) (by rfl))
   | exact sa_nil
   | (refine' sa_cons ?_ ?_ (by exact fun _ => rfl)))
 case c1 => rfl
 case c2 => intro vs h; rcases vs with _ | ⟨v,_ | _⟩ <;> first | rfl | (simp at h)
 case c3 => rfl
 case c4 => rfl
 case c5 => rfl
 case c6 => rfl
 case c7 => decide
 case c8 => decide
 case c9 => rfl
 case c10 => rfl
noncomputable def w196 : { F : List AV → St → Option (AV × St) // ∀ n,FnQ (n + 1) 196 F } := by
 refine' ⟨fPure 2 0 _,fun n => fn_quiet (ps := [Str.ofString "x",Str.ofString "y"]) (fun P => rfl) (fun P => ?c1) ?c2 ?c3 ?c4 ?c5 ?c6 ?c7 ?c8 ?c9 ?c10 ?H⟩
 case H =>
  dsimp only
  repeat' (first
   | exact sb_nil
   | refine' sb_cons ?_ ?_
   | refine' ss_return ?_
   | (first | (refine' se_name (aN (by rfl)) (by decide)) | (refine' se_glob (by rfl) (by exact fun _ => rfl) (by exact fun _ _ => .int _ _) (by decide)))
   | (refine' se_bin ?_ ?_)
   | (refine' se_cmp ?_ ?_ (by rfl)))
 case c1 => rfl
 case c2 => intro vs h; rcases vs with _ | ⟨v,_ | ⟨w,_ | _⟩⟩ <;> first | rfl | (simp at h)
 case c3 => rfl
 case c4 => rfl
 case c5 => rfl
 case c6 => rfl
 case c7 => decide
 case c8 => decide
 case c9 => rfl
 case c10 => rfl
theorem w196_eq (i j : Int) (σ : St) : w196.1 [.int i,.int j] σ = some (.int (b2i (decide (i > j)) - b2i (decide (i < j))),σ) := rfl
noncomputable def w232 : { F : List AV → St → Option (AV × St) // ∀ n,Fn (n + 1) 232 F } := by
 refine' ⟨fPure 1 4 _,fun n => fn_pure (ps := [Str.ofString "needs"]) (fun P => rfl) (fun P => ?c1) ?c2 ?c3 ?c4 ?c5 ?c6 ?c7 ?c8 ?c9 ?c10 ?H⟩
 case H =>
  dsimp only
  repeat' (first
   | exact sb_nil
   | refine' sb_cons ?_ ?_
   | refine' ss_return ?_
   | ((with_reducible show SS _ (Stmt.Assign [Expr.Name _ _] _ _) _); first | (refine' sAs ?_ (aN (by rfl)) (by rfl) (by exact fun _ => rfl)) | (refine' sAC ?_ (aN (by rfl)) (by rfl) (by rfl) (by exact fun _ => rfl)))
   | (refine' ss_aug_name (aN (by rfl)) (by rfl) ?_ (by rfl))
   | (refine' ss_expr ?_ (by intro env h; unfold interactive; rw [h]; rfl) (by exact fun _ => rfl))
   | ((with_reducible show SS _ (Stmt.For _ (Expr.Call (Expr.Name (Str.ofString "range") _) [_] _ _) _ _ _) _); refine' ss_range ?_ ?_ ?_ (by rfl) (by rfl) (by exact fun _ => rfl) (by boot_fast) (by decide) (by decide))
   | (refine' ss_for ?_ ?_ ?_ LoOk.name (by rfl) (by rfl) (by intro _ _; rfl))
   | ((with_reducible show SE _ (Expr.ListComp _ _ _ _) _); (refine' se_compF ?_ (by rfl) (by decide) (CmIs.ok (by repeat' (first | exact CmIs.nil | refine' CmIs.local ?_ | refine' CmIs.glob ?_ | refine' CmIs.cell ?_ | (refine' CmIs.free (aN (by rfl)) (by rfl) ?_)))) (by rfl) ?_ ?_ ?_ (by intro _ _; rfl) (by intro _ _; rfl)))
   | (first | (refine' se_name (aN (by rfl)) (by decide)) | (refine' se_glob (by rfl) (by exact fun _ => rfl) (by exact fun _ _ => .int _ _) (by decide)))
   | exact se_int
   | (first | refine' se_sub ?_ ?_ | refine' se_subL ?_ ?_)
   | (refine' se_cmp ?_ ?_ (by rfl))
   | (refine' se_bool1 ?_)
   | (refine' se_or ?_ ?_)
   | (first | (refine' se_list (by rfl) ?_) | refine' sLF ?_)
   | ((with_reducible show SE _ (Expr.Call (Expr.Attribute _ (Str.ofString "append") _) _ _ _) _); refine' se_meth1 (get_list rfl PySem.F.slot_list_append (by first | rfl | kernel_rfl)) (op_append rfl) ?_ ?_)
   | ((with_reducible show Src _ (Expr.Call (Expr.Name (Str.ofString "range") _) _ _ _) _); refine' src_range ?_ (by rfl) (by rfl) (by exact fun _ => rfl) (by boot_fast) (by decide) (by decide))
   | (refine' as_name (aN (by rfl)) (by rfl))
   | (refine' as_cell (aN (by rfl)) (by rfl) (by rfl))
   | exact si_nil
   | exact sa_nil
   | (refine' sa_cons ?_ ?_ (by exact fun _ => rfl)))
 case c1 => rfl
 case c2 => intro vs h; rcases vs with _ | ⟨v,_ | _⟩ <;> first | rfl | (simp at h)
 case c3 => rfl
 case c4 => rfl
 case c5 => rfl
 case c6 => decide
 case c7 => decide
 case c8 => decide
 case c9 => rfl
 case c10 => rfl
set_option maxHeartbeats 16000000
noncomputable def w203 : { F : List AV → St → Option (AV × St) // ∀ n,Fn (n + 1) 203 F } := by
 refine' ⟨fPure 1 6 _,fun n => fn_pure (ps := [Str.ofString "script"]) (fun P => rfl) (fun P => ?c1) ?c2 ?c3 ?c4 ?c5 ?c6 ?c7 ?c8 ?c9 ?c10 ?H⟩
 case H =>
  dsimp only
  repeat' (first
   | exact sb_nil
   | refine' sb_cons ?_ ?_
   | refine' ss_return ?_
   | ((with_reducible show SS _ (Stmt.Assign [Expr.Name _ _] _ _) _); first | (refine' sAs ?_ (aN (by rfl)) (by rfl) (by exact fun _ => rfl)) | (refine' sAC ?_ (aN (by rfl)) (by rfl) (by rfl) (by exact fun _ => rfl)))
   | (refine' ss_aug_item ?_ ?_ ?_ (by rfl))
   | ((with_reducible show SS _ (Stmt.For (Expr.Tuple _ _ _) (Expr.Call (Expr.Name (Str.ofString "enumerate") _) _ _ _) _ _ _) _); refine' ss_enum ?_ ?_ ?_ (by rfl) (by rfl) (by exact fun _ => rfl) (by boot_fast) (by decide) (by decide))
   | (first | (refine' se_name (aN (by rfl)) (by decide)) | (refine' se_glob (by rfl) (by exact fun _ => rfl) (by exact fun _ _ => .int _ _) (by decide)))
   | exact se_int
   | (refine' se_upto ?_ ?_)
   | (first | refine' se_sub ?_ ?_ | refine' se_subL ?_ ?_)
   | (refine' se_bin ?_ ?_)
   | ((with_reducible show SE _ (Expr.Call (Expr.Name (Str.ofString "max") _) _ _ _) _); refine' se_b2 (op_max (by rfl)) (by rfl) (by exact fun _ => rfl) (by boot_fast) (by decide) (by decide) ?_ ?_)
   | (first | (refine' se_list (by rfl) ?_) | refine' sLF ?_)
   | (refine' se_tuple ?_)
   | (refine' as_name (aN (by rfl)) (by rfl))
   | (refine' as_tup ?_ (by rfl) (by exact fun _ => rfl) (by exact fun _ => rfl))
   | exact al_nil
   | refine' al_cons ?_ ?_
   | exact sa_nil
   | (refine' sa_cons ?_ ?_ (by exact fun _ => rfl)))
 case c1 => rfl
 case c2 => intro vs h; rcases vs with _ | ⟨v,_ | _⟩ <;> first | rfl | (simp at h)
 case c3 => rfl
 case c4 => rfl
 case c5 => rfl
 case c6 => decide
 case c7 => decide
 case c8 => decide
 case c9 => rfl
 case c10 => rfl
set_option maxHeartbeats 1600000
noncomputable def w227 : { F : List AV → St → Option (AV × St) // ∀ n,Fn (n + 1) 227 F } := by
 refine' ⟨fPure 1 5 _,fun n => fn_pure (ps := [Str.ofString "needs"]) (fun P => rfl) (fun P => ?c1) ?c2 ?c3 ?c4 ?c5 ?c6 ?c7 ?c8 ?c9 ?c10 ?H⟩
 case H =>
  dsimp only
  repeat' (first
   | ((with_reducible show ST _ (Expr.Compare _ [CmpOp.Eq] [Expr.List [] _] _) _); refine' st_cmp ?_ (sLF sa_nil) (by rfl))
   | exact sb_nil
   | refine' sb_cons ?_ ?_
   | refine' ss_return ?_
   | refine' ss_if ?_ ?_ ?_
   | ((with_reducible show SS _ (Stmt.Assign [Expr.Name _ _] _ _) _); first | (refine' sAs ?_ (aN (by rfl)) (by rfl) (by exact fun _ => rfl)) | (refine' sAC ?_ (aN (by rfl)) (by rfl) (by rfl) (by exact fun _ => rfl)))
   | (refine' ss_expr ?_ (by intro env h; unfold interactive; rw [h]; rfl) (by exact fun _ => rfl))
   | ((with_reducible show SS _ (Stmt.For _ (Expr.Call (Expr.Name (Str.ofString "range") _) [_] _ _) _ _ _) _); refine' ss_range ?_ ?_ ?_ (by rfl) (by rfl) (by exact fun _ => rfl) (by boot_fast) (by decide) (by decide))
   | ((with_reducible show SS _ (Stmt.For _ (Expr.Call (Expr.Name (Str.ofString "range") _) [_,_] _ _) _ _ _) _); refine' ss_range2 ?_ ?_ ?_ ?_ (by rfl) (by rfl) (by exact fun _ => rfl) (by boot_fast) (by decide) (by decide))
   | (refine' ss_for ?_ ?_ ?_ LoOk.name (by rfl) (by rfl) (by intro _ _; rfl))
   | ((with_reducible show SE _ (Expr.List [Expr.List [Expr.Constant _ _ _] _] _) _); refine' se_list (by rfl) (sa_cons (sLF ?_) sa_nil (by exact fun _ => rfl)))
   | ((with_reducible show SE _ (Expr.List [Expr.Name _ _] _) _); refine' sLF ?_)
   | ((with_reducible show SE _ (Expr.ListComp _ _ _ _) _); (refine' se_compF ?_ (by rfl) (by decide) (CmIs.ok (by repeat' (first | exact CmIs.nil | refine' CmIs.local ?_ | refine' CmIs.glob ?_ | refine' CmIs.cell ?_ | (refine' CmIs.free (aN (by rfl)) (by rfl) ?_)))) (by rfl) ?_ ?_ ?_ (by intro _ _; rfl) (by intro _ _; rfl)))
   | (first | (refine' se_name (aN (by rfl)) (by decide)) | (refine' se_glob (by rfl) (by exact fun _ => rfl) (by exact fun _ _ => .int _ _) (by decide)))
   | exact se_int
   | (refine' se_upto ?_ ?_)
   | (refine' se_from ?_ ?_)
   | (first | refine' se_sub ?_ ?_ | refine' se_subL ?_ ?_)
   | (refine' se_bin ?_ ?_)
   | (first | (refine' se_list (by rfl) ?_) | refine' sLF ?_)
   | ((with_reducible show SE _ (Expr.Call (Expr.Attribute _ (Str.ofString "append") _) _ _ _) _); refine' se_meth1 (get_list rfl PySem.F.slot_list_append (by first | rfl | kernel_rfl)) (op_append rfl) ?_ ?_)
   | (refine' src_val ?_ (by rfl))
   | (refine' as_name (aN (by rfl)) (by rfl))
   | (refine' as_cell (aN (by rfl)) (by rfl) (by rfl))
   | refine' si_one ?_
   | (refine' st_cmp ?_ ?_ (by rfl))
   | exact sa_nil
   | (refine' sa_cons ?_ ?_ (by exact fun _ => rfl)))
 case c1 => rfl
 case c2 => intro vs h; rcases vs with _ | ⟨v,_ | _⟩ <;> first | rfl | (simp at h)
 case c3 => rfl
 case c4 => rfl
 case c5 => rfl
 case c6 => decide
 case c7 => decide
 case c8 => decide
 case c9 => rfl
 case c10 => rfl
noncomputable def w128 : { F : List AV → St → Option (AV × St) // ∀ n,Fn (n + 1) 128 F } := by
 refine' ⟨fOwn 2 2 _,fun n => fn_own (ps := [Str.ofString "self",Str.ofString "node"]) (fun P => rfl) (fun P => ?c1) ?c2 ?c3 ?c4 ?c5 ?c6 ?c7 ?c8 ?c9 ?c10 ?H⟩
 case H =>
  dsimp only
  repeat' (first
   | exact sb_nil
   | ((with_reducible show SB _ (Stmt.Raise _ _ _ :: _) _); exact sb_none)
   | refine' sb_cons ?_ ?_
   | refine' ss_return ?_
   | refine' ss_if ?_ ?_ ?_
   | ((with_reducible show SS _ (Stmt.Assign [Expr.Name _ _] _ _) _); first | (refine' sAs ?_ (aN (by rfl)) (by rfl) (by exact fun _ => rfl)) | (refine' sAC ?_ (aN (by rfl)) (by rfl) (by rfl) (by exact fun _ => rfl)))
   | ((with_reducible show SS _ (Stmt.Assign [Expr.Subscript _ _ _,Expr.Name _ _] _ _) _); refine' ss_set_two ?_ ?_ ?_ (by rfl) (aN (by rfl)) (by rfl) (by exact fun _ => rfl) (by exact fun _ => rfl))
   | (refine' ss_expr ?_ (by intro env h; unfold interactive; rw [h]; rfl) (by exact fun _ => rfl))
   | (refine' ss_for ?_ ?_ ?_ LoOk.name (by rfl) (by rfl) (by intro _ _; rfl))
   | ((with_reducible show SS _ (Stmt.AugAssign (Expr.Attribute _ (Str.ofString "npredecessors") _) _ _ _) _); refine' ss_aug_attr Fld.np ?_ ?_ (by rfl))
   | ((with_reducible show SE _ (Expr.Call (Expr.Attribute _ (Str.ofString "_get_nodeinfo") _) _ _ _) _); refine' se_own1 (w128.2 _) ⟨rfl,rfl,rfl,rfl⟩ own128 ?_ ?_)
   | (first | (refine' se_name (aN (by rfl)) (by decide)) | (refine' se_glob (by rfl) (by exact fun _ => rfl) (by exact fun _ _ => .int _ _) (by decide)))
   | ((with_reducible show SE _ (Expr.Attribute _ (Str.ofString "_node2info") _) _); refine' se_attr Fld.n2i ?_)
   | ((with_reducible show SE _ (Expr.Attribute _ (Str.ofString "_ready_nodes") _) _); refine' se_attr Fld.rdy ?_)
   | ((with_reducible show SE _ (Expr.Attribute _ (Str.ofString "successors") _) _); refine' se_attr Fld.succ ?_)
   | exact se_none
   | (refine' se_walrus ?_ (aN (by rfl)) (by rfl))
   | ((with_reducible show SE _ (Expr.Call (Expr.Name (Str.ofString "len") _) _ _ _) _); refine' se_b1 op_len (by rfl) (by exact fun _ => rfl) (by boot_fast) (by decide) (by decide) ?_)
   | ((with_reducible show SE _ (Expr.Call (Expr.Name (Str.ofString "_NodeInfo") _) _ _ _) _); refine' se_info rfl rfl rfl ?_ (by rfl) (by exact fun _ => rfl) (by decide) (by exact fun _ => by kernel_rfl))
   | ((with_reducible show SE _ (Expr.Call (Expr.Attribute _ (Str.ofString "append") _) _ _ _) _); refine' se_meth1 (get_list rfl PySem.F.slot_list_append (by first | rfl | kernel_rfl)) (op_append rfl) ?_ ?_)
   | ((with_reducible show SE _ (Expr.Call (Expr.Attribute _ (Str.ofString "get") _) _ _ _) _); refine' se_meth1 (get_dict_get rfl) (op_get rfl) ?_ ?_)
   | (refine' as_name (aN (by rfl)) (by rfl))
   | (refine' st_cmp ?_ ?_ (by rfl))
   | exact sa_nil
   | (refine' sa_cons ?_ ?_ (by exact fun _ => rfl)))
 case c1 => rfl
 case c2 => intro vs h; rcases vs with _ | ⟨v,_ | ⟨w,_ | _⟩⟩ <;> first | rfl | (simp at h)
 case c3 => rfl
 case c4 => rfl
 case c5 => rfl
 case c6 => rfl
 case c7 => decide
 case c8 => decide
 case c9 => rfl
 case c10 => rfl
theorem own128 : Own (Str.ofString "_get_nodeinfo") 128 := ⟨fun _ => by kernel_rfl,fun _ => by kernel_rfl,fun _ => by kernel_rfl,fun _ _ _ _ _ _ _ _ _ => rfl,fun _ => by kernel_rfl,fun _ => by kernel_rfl⟩
noncomputable def w135 : { F : List AV → St → Option (AV × St) // ∀ n,Fn (n + 2) 135 F } := by
 refine' ⟨fOwnR 2 4 _,fun n => fn_ownR (np := 2) (ps := [Str.ofString "self",Str.ofString "node",Str.ofString "predecessors"]) (fun P => rfl) (fun P => ?c1) rfl ?c2 ?c3 ?c4 ?c5 ?c6 ?c7 ?c8 ?c9 ?c10 ?H⟩
 case H =>
  dsimp only
  repeat' (first
   | exact sb_nil
   | ((with_reducible show SB _ (Stmt.Raise _ _ _ :: _) _); exact sb_none)
   | refine' sb_cons ?_ ?_
   | refine' ss_return ?_
   | refine' ss_if ?_ ?_ ?_
   | ((with_reducible show SS _ (Stmt.Assign [Expr.Name _ _] _ _) _); first | (refine' sAs ?_ (aN (by rfl)) (by rfl) (by exact fun _ => rfl)) | (refine' sAC ?_ (aN (by rfl)) (by rfl) (by rfl) (by exact fun _ => rfl)))
   | ((with_reducible show SS _ (Stmt.Assign [Expr.Subscript _ _ _,Expr.Name _ _] _ _) _); refine' ss_set_two ?_ ?_ ?_ (by rfl) (aN (by rfl)) (by rfl) (by exact fun _ => rfl) (by exact fun _ => rfl))
   | (refine' ss_expr ?_ (by intro env h; unfold interactive; rw [h]; rfl) (by exact fun _ => rfl))
   | (refine' ss_for ?_ ?_ ?_ LoOk.name (by rfl) (by rfl) (by intro _ _; rfl))
   | ((with_reducible show SS _ (Stmt.AugAssign (Expr.Attribute _ (Str.ofString "npredecessors") _) _ _ _) _); refine' ss_aug_attr Fld.np ?_ ?_ (by rfl))
   | ((with_reducible show SE _ (Expr.Call (Expr.Attribute _ (Str.ofString "_get_nodeinfo") _) _ _ _) _); refine' se_own1 (w128.2 _) ⟨rfl,rfl,rfl,rfl⟩ own128 ?_ ?_)
   | (first | (refine' se_name (aN (by rfl)) (by decide)) | (refine' se_glob (by rfl) (by exact fun _ => rfl) (by exact fun _ _ => .int _ _) (by decide)))
   | ((with_reducible show SE _ (Expr.Attribute _ (Str.ofString "_node2info") _) _); refine' se_attr Fld.n2i ?_)
   | ((with_reducible show SE _ (Expr.Attribute _ (Str.ofString "_ready_nodes") _) _); refine' se_attr Fld.rdy ?_)
   | ((with_reducible show SE _ (Expr.Attribute _ (Str.ofString "successors") _) _); refine' se_attr Fld.succ ?_)
   | exact se_none
   | (refine' se_walrus ?_ (aN (by rfl)) (by rfl))
   | ((with_reducible show SE _ (Expr.Call (Expr.Name (Str.ofString "len") _) _ _ _) _); refine' se_b1 op_len (by rfl) (by exact fun _ => rfl) (by boot_fast) (by decide) (by decide) ?_)
   | ((with_reducible show SE _ (Expr.Call (Expr.Name (Str.ofString "_NodeInfo") _) _ _ _) _); refine' se_info rfl rfl rfl ?_ (by rfl) (by exact fun _ => rfl) (by decide) (by exact fun _ => by kernel_rfl))
   | ((with_reducible show SE _ (Expr.Call (Expr.Attribute _ (Str.ofString "append") _) _ _ _) _); refine' se_meth1 (get_list rfl PySem.F.slot_list_append (by first | rfl | kernel_rfl)) (op_append rfl) ?_ ?_)
   | ((with_reducible show SE _ (Expr.Call (Expr.Attribute _ (Str.ofString "get") _) _ _ _) _); refine' se_meth1 (get_dict_get rfl) (op_get rfl) ?_ ?_)
   | (refine' as_name (aN (by rfl)) (by rfl))
   | (refine' st_cmp ?_ ?_ (by rfl))
   | exact sa_nil
   | (refine' sa_cons ?_ ?_ (by exact fun _ => rfl)))
 case c1 => rfl
 case c2 => intro P vs h1 h2; rcases vs with _ | ⟨_,_ | ⟨_,_ | ⟨_,_ | ⟨_,_ | ⟨_,_ | ⟨_,_ | ⟨_,_ | ⟨_,_ | _⟩⟩⟩⟩⟩⟩⟩⟩ <;> first | (exfalso; clear P; revert h1 h2; simp only [List.length_cons,List.length_nil]; omega) | exact rfl
 case c3 => rfl
 case c4 => rfl
 case c5 => rfl
 case c6 => rfl
 case c7 => decide
 case c8 => decide
 case c9 => rfl
 case c10 => rfl
noncomputable def w147 : { F : List AV → St → Option (AV × St) // ∀ n,Fn (n + 1) 147 F } := by
 refine' ⟨fOwn 1 3 _,fun n => fn_own (ps := [Str.ofString "self"]) (fun P => rfl) (fun P => ?c1) ?c2 ?c3 ?c4 ?c5 ?c6 ?c7 ?c8 ?c9 ?c10 ?H⟩
 case H =>
  dsimp only
  repeat' (first
   | ((with_reducible show SB _ (Stmt.If (Expr.Compare (Expr.Name (Str.ofString "stat") _) [CmpOp.GtE] _ _) _ _ _ :: _) _); exact sb_none)
   | exact sb_nil
   | ((with_reducible show SB _ (Stmt.Raise _ _ _ :: _) _); exact sb_none)
   | refine' sb_cons ?_ ?_
   | refine' ss_return ?_
   | refine' ss_if ?_ ?_ ?_
   | ((with_reducible show SS _ (Stmt.Assign [Expr.Name _ _] _ _) _); first | (refine' sAs ?_ (aN (by rfl)) (by rfl) (by exact fun _ => rfl)) | (refine' sAC ?_ (aN (by rfl)) (by rfl) (by rfl) (by exact fun _ => rfl)))
   | ((with_reducible show SS _ (Stmt.Assign [Expr.Attribute _ (Str.ofString "npredecessors") _] _ _) _); refine' ss_assign_attr Fld.np ?_ ?_ (by rfl) (by exact fun _ => rfl))
   | (refine' ss_expr ?_ (by intro env h; unfold interactive; rw [h]; rfl) (by exact fun _ => rfl))
   | (refine' ss_for ?_ ?_ ?_ LoOk.name (by rfl) (by rfl) (by intro _ _; rfl))
   | ((with_reducible show SS _ (Stmt.AugAssign (Expr.Attribute _ (Str.ofString "npredecessors") _) _ _ _) _); refine' ss_aug_attr Fld.np ?_ ?_ (by rfl))
   | ((with_reducible show SS _ (Stmt.AugAssign (Expr.Attribute _ (Str.ofString "_npassedout") _) _ _ _) _); refine' ss_aug_attr Fld.po ?_ ?_ (by rfl))
   | ((with_reducible show SS _ (Stmt.AugAssign (Expr.Attribute _ (Str.ofString "_nfinished") _) _ _ _) _); refine' ss_aug_attr Fld.nf ?_ ?_ (by rfl))
   | (first | (refine' se_name (aN (by rfl)) (by decide)) | (refine' se_glob (by rfl) (by exact fun _ => rfl) (by exact fun _ _ => .int _ _) (by decide)))
   | ((with_reducible show SE _ (Expr.Attribute _ (Str.ofString "_node2info") _) _); refine' se_attr Fld.n2i ?_)
   | ((with_reducible show SE _ (Expr.Attribute _ (Str.ofString "_ready_nodes") _) _); refine' se_attr Fld.rdy ?_)
   | ((with_reducible show SE _ (Expr.Attribute _ (Str.ofString "npredecessors") _) _); refine' se_attr Fld.np ?_)
   | ((with_reducible show SE _ (Expr.Attribute _ (Str.ofString "successors") _) _); refine' se_attr Fld.succ ?_)
   | exact se_int
   | exact se_none
   | (first | refine' se_sub ?_ ?_ | refine' se_subL ?_ ?_)
   | (refine' se_walrus ?_ (aN (by rfl)) (by rfl))
   | ((with_reducible show SE _ (Expr.Call (Expr.Name (Str.ofString "len") _) _ _ _) _); refine' se_b1 op_len (by rfl) (by exact fun _ => rfl) (by boot_fast) (by decide) (by decide) ?_)
   | ((with_reducible show SE _ (Expr.Call (Expr.Name (Str.ofString "tuple") _) _ _ _) _); refine' se_t1 op_tuple (by rfl) (by exact fun _ => rfl) (by boot_fast) (by decide) (by decide) ?_)
   | ((with_reducible show SE _ (Expr.Call (Expr.Attribute _ (Str.ofString "append") _) _ _ _) _); refine' se_meth1 (get_list rfl PySem.F.slot_list_append (by first | rfl | kernel_rfl)) (op_append rfl) ?_ ?_)
   | ((with_reducible show SE _ (Expr.Call (Expr.Attribute _ (Str.ofString "clear") _) _ _ _) _); refine' se_meth0 (get_list rfl PySem.F.slot_list_clear (by first | rfl | kernel_rfl)) (op_clear rfl) ?_)
   | ((with_reducible show SE _ (Expr.Call (Expr.Attribute _ (Str.ofString "get") _) _ _ _) _); refine' se_meth1 (get_dict_get rfl) (op_get rfl) ?_ ?_)
   | (refine' as_name (aN (by rfl)) (by rfl))
   | (refine' st_cmp ?_ ?_ (by rfl)))
 case c1 => rfl
 case c2 => intro vs h; rcases vs with _ | ⟨v,_ | _⟩ <;> first | rfl | (simp at h)
 case c3 => rfl
 case c4 => rfl
 case c5 => rfl
 case c6 => rfl
 case c7 => decide
 case c8 => decide
 case c9 => rfl
 case c10 => rfl
noncomputable def w168 : { F : List AV → St → Option (AV × St) // ∀ n,Fn (n + 1) 168 F } := by
 refine' ⟨fOwnR 1 8 _,fun n => fn_ownR (np := 1) (ps := [Str.ofString "self",Str.ofString "nodes"]) (fun P => rfl) (fun P => ?c1) rfl ?c2 ?c3 ?c4 ?c5 ?c6 ?c7 ?c8 ?c9 ?c10 ?H⟩
 case H =>
  dsimp only
  repeat' (first
   | ((with_reducible show SB _ (Stmt.If (Expr.Compare (Expr.Name (Str.ofString "stat") _) [CmpOp.GtE] _ _) _ _ _ :: _) _); exact sb_none)
   | exact sb_nil
   | ((with_reducible show SB _ (Stmt.Raise _ _ _ :: _) _); exact sb_none)
   | refine' sb_cons ?_ ?_
   | refine' ss_return ?_
   | refine' ss_if ?_ ?_ ?_
   | ((with_reducible show SS _ (Stmt.Assign [Expr.Name _ _] _ _) _); first | (refine' sAs ?_ (aN (by rfl)) (by rfl) (by exact fun _ => rfl)) | (refine' sAC ?_ (aN (by rfl)) (by rfl) (by rfl) (by exact fun _ => rfl)))
   | ((with_reducible show SS _ (Stmt.Assign [Expr.Attribute _ (Str.ofString "npredecessors") _] _ _) _); refine' ss_assign_attr Fld.np ?_ ?_ (by rfl) (by exact fun _ => rfl))
   | (refine' ss_expr ?_ (by intro env h; unfold interactive; rw [h]; rfl) (by exact fun _ => rfl))
   | (refine' ss_for ?_ ?_ ?_ LoOk.name (by rfl) (by rfl) (by intro _ _; rfl))
   | ((with_reducible show SS _ (Stmt.AugAssign (Expr.Attribute _ (Str.ofString "npredecessors") _) _ _ _) _); refine' ss_aug_attr Fld.np ?_ ?_ (by rfl))
   | ((with_reducible show SS _ (Stmt.AugAssign (Expr.Attribute _ (Str.ofString "_npassedout") _) _ _ _) _); refine' ss_aug_attr Fld.po ?_ ?_ (by rfl))
   | ((with_reducible show SS _ (Stmt.AugAssign (Expr.Attribute _ (Str.ofString "_nfinished") _) _ _ _) _); refine' ss_aug_attr Fld.nf ?_ ?_ (by rfl))
   | (first | (refine' se_name (aN (by rfl)) (by decide)) | (refine' se_glob (by rfl) (by exact fun _ => rfl) (by exact fun _ _ => .int _ _) (by decide)))
   | ((with_reducible show SE _ (Expr.Attribute _ (Str.ofString "_node2info") _) _); refine' se_attr Fld.n2i ?_)
   | ((with_reducible show SE _ (Expr.Attribute _ (Str.ofString "_ready_nodes") _) _); refine' se_attr Fld.rdy ?_)
   | ((with_reducible show SE _ (Expr.Attribute _ (Str.ofString "npredecessors") _) _); refine' se_attr Fld.np ?_)
   | ((with_reducible show SE _ (Expr.Attribute _ (Str.ofString "successors") _) _); refine' se_attr Fld.succ ?_)
   | exact se_int
   | exact se_none
   | (first | refine' se_sub ?_ ?_ | refine' se_subL ?_ ?_)
   | (refine' se_walrus ?_ (aN (by rfl)) (by rfl))
   | ((with_reducible show SE _ (Expr.Call (Expr.Name (Str.ofString "len") _) _ _ _) _); refine' se_b1 op_len (by rfl) (by exact fun _ => rfl) (by boot_fast) (by decide) (by decide) ?_)
   | ((with_reducible show SE _ (Expr.Call (Expr.Name (Str.ofString "tuple") _) _ _ _) _); refine' se_t1 op_tuple (by rfl) (by exact fun _ => rfl) (by boot_fast) (by decide) (by decide) ?_)
   | ((with_reducible show SE _ (Expr.Call (Expr.Attribute _ (Str.ofString "append") _) _ _ _) _); refine' se_meth1 (get_list rfl PySem.F.slot_list_append (by first | rfl | kernel_rfl)) (op_append rfl) ?_ ?_)
   | ((with_reducible show SE _ (Expr.Call (Expr.Attribute _ (Str.ofString "clear") _) _ _ _) _); refine' se_meth0 (get_list rfl PySem.F.slot_list_clear (by first | rfl | kernel_rfl)) (op_clear rfl) ?_)
   | ((with_reducible show SE _ (Expr.Call (Expr.Attribute _ (Str.ofString "get") _) _ _ _) _); refine' se_meth1 (get_dict_get rfl) (op_get rfl) ?_ ?_)
   | (refine' as_name (aN (by rfl)) (by rfl))
   | (refine' st_cmp ?_ ?_ (by rfl)))
 case c1 => rfl
 case c2 => intro P vs h1 h2; rcases vs with _ | ⟨_,_ | ⟨_,_ | ⟨_,_ | ⟨_,_ | ⟨_,_ | ⟨_,_ | ⟨_,_ | _⟩⟩⟩⟩⟩⟩⟩ <;> first | (exfalso; clear P; revert h1 h2; simp only [List.length_cons,List.length_nil]; omega) | exact rfl
 case c3 => rfl
 case c4 => rfl
 case c5 => rfl
 case c6 => rfl
 case c7 => decide
 case c8 => decide
 case c9 => rfl
 case c10 => rfl
noncomputable def w175 : { F : List AV → St → Option (AV × St) // ∀ n,Fn (n + 1) 175 F } := by
 refine' ⟨fOwn 1 8 _,fun n => fn_own (ps := [Str.ofString "self"]) (fun P => rfl) (fun P => ?c1) ?c2 ?c3 ?c4 ?c5 ?c6 ?c7 ?c8 ?c9 ?c10 ?H⟩
 case H =>
  dsimp only
  repeat' (first
   | ((with_reducible show SB _ (Stmt.Return (some (Expr.BinOp _ _ _ _)) _ :: _) _); exact sb_none)
   | exact sb_nil
   | refine' sb_cons ?_ ?_
   | exact ss_break
   | exact ss_continue
   | refine' ss_return ?_
   | refine' ss_if ?_ ?_ ?_
   | ((with_reducible show SS _ (Stmt.Assign [Expr.Name _ _] _ _) _); first | (refine' sAs ?_ (aN (by rfl)) (by rfl) (by exact fun _ => rfl)) | (refine' sAC ?_ (aN (by rfl)) (by rfl) (by rfl) (by exact fun _ => rfl)))
   | ((with_reducible show SS _ (Stmt.Assign [Expr.Subscript _ _ _] _ _) _); refine' ss_set_item ?_ ?_ ?_ (by rfl) (by exact fun _ => rfl))
   | (refine' ss_expr ?_ (by intro env h; unfold interactive; rw [h]; rfl) (by exact fun _ => rfl))
   | (refine' ss_for ?_ ?_ ?_ LoOk.name (by rfl) (by rfl) (by intro _ _; rfl))
   | (refine' ss_while 40 ?_ ?_ ?_)
   | (refine' ss_try ?_ (aN (by rfl)) (by rfl) (by rfl) (by rfl) ?_ (by rfl) (by rfl) (by rfl) (by exact fun _ => rfl))
   | (refine' ss_del ?_ ?_ (by rfl))
   | (first | (refine' se_name (aN (by rfl)) (by decide)) | (refine' se_glob (by rfl) (by exact fun _ => rfl) (by exact fun _ _ => .int _ _) (by decide)))
   | ((with_reducible show SE _ (Expr.Attribute _ (Str.ofString "_node2info") _) _); refine' se_attr Fld.n2i ?_)
   | ((with_reducible show SE _ (Expr.Attribute _ (Str.ofString "successors") _) _); refine' se_attr Fld.succ ?_)
   | ((with_reducible show SE _ (Expr.Attribute _ (Str.ofString "__next__") _) _); refine' se_next (by rfl) ?_)
   | exact se_none
   | exact se_neg
   | exact se_bool
   | (first | refine' se_sub ?_ ?_ | refine' se_subL ?_ ?_)
   | (first | (refine' se_list (by rfl) ?_) | refine' sLF ?_)
   | (refine' se_dict (by rfl))
   | ((with_reducible show SE _ (Expr.Call (Expr.Name (Str.ofString "len") _) _ _ _) _); refine' se_b1 op_len (by rfl) (by exact fun _ => rfl) (by boot_fast) (by decide) (by decide) ?_)
   | ((with_reducible show SE _ (Expr.Call (Expr.Name (Str.ofString "iter") _) _ _ _) _); refine' se_b1 (op_iter (by rfl)) (by rfl) (by exact fun _ => rfl) (by boot_fast) (by decide) (by decide) ?_)
   | ((with_reducible show SE _ (Expr.Call (Expr.Name (Str.ofString "set") _) _ _ _) _); refine' se_set (by rfl) (by rfl) (by exact fun _ => rfl) (by boot_fast) (by decide) (by decide))
   | ((with_reducible show SE _ (Expr.Call (Expr.Attribute _ (Str.ofString "append") _) _ _ _) _); refine' se_meth1 (get_list rfl PySem.F.slot_list_append (by first | rfl | kernel_rfl)) (op_append rfl) ?_ ?_)
   | ((with_reducible show SE _ (Expr.Call (Expr.Attribute _ (Str.ofString "pop") _) _ _ _) _); refine' se_meth0 (get_list rfl PySem.F.slot_list_pop (by first | rfl | kernel_rfl)) (op_pop rfl) ?_)
   | ((with_reducible show SE _ (Expr.Call (Expr.Attribute _ (Str.ofString "add") _) _ _ _) _); refine' se_meth1 (get_set_add rfl) (op_add rfl) ?_ ?_)
   | (refine' as_name (aN (by rfl)) (by rfl))
   | (refine' st_cmp ?_ ?_ (by rfl))
   | (refine' st_plain ?_)
   | exact sa_nil)
 case c1 => rfl
 case c2 => intro vs h; rcases vs with _ | ⟨v,_ | _⟩ <;> first | rfl | (simp at h)
 case c3 => rfl
 case c4 => rfl
 case c5 => rfl
 case c6 => rfl
 case c7 => decide
 case c8 => decide
 case c9 => rfl
 case c10 => rfl
theorem own175 : Own (Str.ofString "_find_cycle") 175 := ⟨fun _ => by kernel_rfl,fun _ => by kernel_rfl,fun _ => by kernel_rfl,fun _ _ _ _ _ _ _ _ _ => rfl,fun _ => by kernel_rfl,fun _ => by kernel_rfl⟩
noncomputable def w140 : { F : List AV → St → Option (AV × St) // ∀ n,Fn (n + 2) 140 F } := by
 refine' ⟨fOwn 1 1 _,fun n => fn_own (ps := [Str.ofString "self"]) (fun P => rfl) (fun P => ?c1) ?c2 ?c3 ?c4 ?c5 ?c6 ?c7 ?c8 ?c9 ?c10 ?H⟩
 case H =>
  dsimp only
  repeat' (first
   | exact sb_nil
   | ((with_reducible show SB _ (Stmt.Raise _ _ _ :: _) _); exact sb_none)
   | refine' sb_cons ?_ ?_
   | refine' ss_if ?_ ?_ ?_
   | ((with_reducible show SS _ (Stmt.Assign [Expr.Name _ _] _ _) _); first | (refine' sAs ?_ (aN (by rfl)) (by rfl) (by exact fun _ => rfl)) | (refine' sAC ?_ (aN (by rfl)) (by rfl) (by rfl) (by exact fun _ => rfl)))
   | ((with_reducible show SS _ (Stmt.Assign [Expr.Attribute _ (Str.ofString "_ready_nodes") _] _ _) _); refine' ss_assign_attr Fld.rdy ?_ ?_ (by rfl) (by exact fun _ => rfl))
   | ((with_reducible show SE _ (Expr.Call (Expr.Attribute _ (Str.ofString "_find_cycle") _) _ _ _) _); refine' se_own0 (w175.2 _) ⟨rfl,rfl,rfl,rfl⟩ own175 ?_)
   | ((with_reducible show SE _ (Expr.ListComp _ _ _ _) _); first | (refine' se_comp ?_ (by rfl) (by decide) (CmIs.ok (by repeat' (first | exact CmIs.nil | refine' CmIs.local ?_ | refine' CmIs.glob ?_ | refine' CmIs.cell ?_ | (refine' CmIs.free (aN (by rfl)) (by rfl) ?_)))) (by rfl) ?_ ?_ ?_ (by intro _ _; rfl) (by intro _ _; rfl) (by rfl)) | (refine' se_compF ?_ (by rfl) (by decide) (CmIs.ok (by repeat' (first | exact CmIs.nil | refine' CmIs.local ?_ | refine' CmIs.glob ?_ | refine' CmIs.cell ?_ | (refine' CmIs.free (aN (by rfl)) (by rfl) ?_)))) (by rfl) ?_ ?_ ?_ (by intro _ _; rfl) (by intro _ _; rfl)))
   | (first | (refine' se_name (aN (by rfl)) (by decide)) | (refine' se_glob (by rfl) (by exact fun _ => rfl) (by exact fun _ _ => .int _ _) (by decide)))
   | ((with_reducible show SE _ (Expr.Attribute _ (Str.ofString "_node2info") _) _); refine' se_attr Fld.n2i ?_)
   | ((with_reducible show SE _ (Expr.Attribute _ (Str.ofString "_ready_nodes") _) _); refine' se_attr Fld.rdy ?_)
   | ((with_reducible show SE _ (Expr.Attribute _ (Str.ofString "npredecessors") _) _); refine' se_attr Fld.np ?_)
   | ((with_reducible show SE _ (Expr.Attribute _ (Str.ofString "node") _) _); refine' se_attr Fld.node ?_)
   | exact se_int
   | exact se_none
   | ((with_reducible show Src _ (Expr.Call (Expr.Attribute _ (Str.ofString "values") _) _ _ _) _); refine' src_values ?_ (by rfl) (by rfl))
   | (refine' as_name (aN (by rfl)) (by rfl))
   | refine' si_one ?_
   | (refine' st_cmp ?_ ?_ (by rfl))
   | (refine' st_plain ?_))
 case c1 => rfl
 case c2 => intro vs h; rcases vs with _ | ⟨v,_ | _⟩ <;> first | rfl | (simp at h)
 case c3 => rfl
 case c4 => rfl
 case c5 => rfl
 case c6 => rfl
 case c7 => decide
 case c8 => decide
 case c9 => rfl
 case c10 => rfl
theorem own140 : Own (Str.ofString "prepare") 140 := ⟨fun _ => by kernel_rfl,fun _ => by kernel_rfl,fun _ => by kernel_rfl,fun _ _ _ _ _ _ _ _ _ => rfl,fun _ => by kernel_rfl,fun _ => by kernel_rfl⟩
theorem own147 : Own (Str.ofString "get_ready") 147 := ⟨fun _ => by kernel_rfl,fun _ => by kernel_rfl,fun _ => by kernel_rfl,fun _ _ _ _ _ _ _ _ _ => rfl,fun _ => by kernel_rfl,fun _ => by kernel_rfl⟩
theorem own168 : Own (Str.ofString "done") 168 := ⟨fun _ => by kernel_rfl,fun _ => by kernel_rfl,fun _ => by kernel_rfl,fun _ _ _ _ _ _ _ _ _ => rfl,fun _ => by kernel_rfl,fun _ => by kernel_rfl⟩
theorem own135 : OwnB (Str.ofString "add") 135 := ⟨⟨fun _ => by kernel_rfl,fun _ => by kernel_rfl,fun _ => by kernel_rfl,fun _ _ _ _ _ _ _ _ _ => rfl,fun _ => by kernel_rfl,fun _ => by kernel_rfl⟩,fun _ => by kernel_rfl,fun _ => by kernel_rfl,fun _ => by kernel_rfl,by decide⟩
noncomputable def w217 : { F : List AV → St → Option (AV × St) // ∀ n,Fn (n + 3) 217 F } := by
 refine' ⟨fPure 2 3 _,fun n => fn_pure (ps := [Str.ofString "needs",Str.ofString "run"]) (fun P => rfl) (fun P => ?c1) ?c2 ?c3 ?c4 ?c5 ?c6 ?c7 ?c8 ?c9 ?c10 ?H⟩
 case H =>
  dsimp only
  repeat' (first
   | exact sb_nil
   | refine' sb_cons ?_ ?_
   | refine' ss_return ?_
   | ((with_reducible show SS _ (Stmt.Assign [Expr.Name _ _] _ _) _); first | (refine' sAs ?_ (aN (by rfl)) (by rfl) (by exact fun _ => rfl)) | (refine' sAC ?_ (aN (by rfl)) (by rfl) (by rfl) (by exact fun _ => rfl)))
   | (refine' ss_expr ?_ (by intro env h; unfold interactive; rw [h]; rfl) (by exact fun _ => rfl))
   | ((with_reducible show SS _ (Stmt.For _ (Expr.Call (Expr.Name (Str.ofString "range") _) [_] _ _) _ _ _) _); refine' ss_range ?_ ?_ ?_ (by rfl) (by rfl) (by exact fun _ => rfl) (by boot_fast) (by decide) (by decide))
   | (refine' ss_for ?_ ?_ ?_ LoOk.name (by rfl) (by rfl) (by intro _ _; rfl))
   | ((with_reducible show SE _ (Expr.Call (Expr.Attribute _ (Str.ofString "prepare") _) _ _ _) _); refine' se_own0 (w140.2 _) ⟨rfl,rfl,rfl,rfl⟩ own140 ?_)
   | ((with_reducible show SE _ (Expr.Call (Expr.Attribute _ (Str.ofString "get_ready") _) _ _ _) _); refine' se_own0 (w147.2 _) ⟨rfl,rfl,rfl,rfl⟩ own147 ?_)
   | ((with_reducible show SE _ (Expr.Call (Expr.Attribute _ (Str.ofString "done") _) _ _ _) _); refine' se_own1 (w168.2 _) ⟨rfl,rfl,rfl,rfl⟩ own168 ?_ ?_)
   | ((with_reducible show SE _ (Expr.Call (Expr.Attribute _ (Str.ofString "add") _) _ _ _) _); refine' se_star (w135.2 _) ⟨rfl,rfl,rfl,rfl⟩ own135 ?_ ?_)
   | (first | (refine' se_name (aN (by rfl)) (by decide)) | (refine' se_glob (by rfl) (by exact fun _ => rfl) (by exact fun _ _ => .int _ _) (by decide)))
   | exact se_int
   | (first | refine' se_sub ?_ ?_ | refine' se_subL ?_ ?_)
   | ((with_reducible show SE _ (Expr.Call (Expr.Name (Str.ofString "list") _) _ _ _) _); refine' se_t1 (op_list (by rfl)) (by rfl) (by exact fun _ => rfl) (by boot_fast) (by decide) (by decide) ?_)
   | ((with_reducible show SE _ (Expr.Call (Expr.Name (Str.ofString "TopologicalSorter") _) _ _ _) _); refine' se_sorter rfl rfl rfl (by rfl) (by exact fun _ => rfl) (by decide) (by exact fun _ => by kernel_rfl))
   | ((with_reducible show SE _ (Expr.Call (Expr.Attribute _ (Str.ofString "extend") _) _ _ _) _); refine' se_meth1 (get_list rfl PySem.F.slot_list_extend (by first | rfl | kernel_rfl)) (op_extend rfl) ?_ ?_)
   | ((with_reducible show SE _ (Expr.Call (Expr.Attribute _ (Str.ofString "remove") _) _ _ _) _); refine' se_meth1 (get_list rfl PySem.F.slot_list_remove (by first | rfl | kernel_rfl)) (op_remove rfl) ?_ ?_)
   | (refine' as_name (aN (by rfl)) (by rfl))
   | exact sa_nil
   | (refine' sa_star ?_ ?_)
   | (refine' sa_cons ?_ ?_ (by exact fun _ => rfl)))
 case c1 => rfl
 case c2 => intro vs h; rcases vs with _ | ⟨v,_ | ⟨w,_ | _⟩⟩ <;> first | rfl | (simp at h)
 case c3 => rfl
 case c4 => rfl
 case c5 => rfl
 case c6 => decide
 case c7 => decide
 case c8 => decide
 case c9 => rfl
 case c10 => rfl
noncomputable def w222 : { F : List AV → St → Option (AV × St) // ∀ n,Fn (n + 4) 222 F } := by
 refine' ⟨fPure 1 6 _,fun n => fn_pure (ps := [Str.ofString "needs"]) (fun P => rfl) (fun P => ?c1) ?c2 ?c3 ?c4 ?c5 ?c6 ?c7 ?c8 ?c9 ?c10 ?H⟩
 case H =>
  dsimp only
  repeat' (first
   | exact sb_nil
   | refine' sb_cons ?_ ?_
   | refine' ss_return ?_
   | refine' ss_if ?_ ?_ ?_
   | ((with_reducible show SS _ (Stmt.Assign [Expr.Name _ _] _ _) _); first | (refine' sAs ?_ (aN (by rfl)) (by rfl) (by exact fun _ => rfl)) | (refine' sAC ?_ (aN (by rfl)) (by rfl) (by rfl) (by exact fun _ => rfl)))
   | ((with_reducible show SS _ (Stmt.Assign [Expr.Subscript _ _ _] _ _) _); refine' ss_set_item ?_ ?_ ?_ (by rfl) (by exact fun _ => rfl))
   | (refine' ss_expr ?_ (by intro env h; unfold interactive; rw [h]; rfl) (by exact fun _ => rfl))
   | ((with_reducible show SS _ (Stmt.For _ (Expr.Call (Expr.Name (Str.ofString "range") _) [_] _ _) _ _ _) _); refine' ss_range ?_ ?_ ?_ (by rfl) (by rfl) (by exact fun _ => rfl) (by boot_fast) (by decide) (by decide))
   | (refine' ss_for ?_ ?_ ?_ LoOk.name (by rfl) (by rfl) (by intro _ _; rfl))
   | ((with_reducible show SE _ (Expr.List [Expr.Name _ _] _) _); refine' sLF ?_)
   | ((with_reducible show SE _ (Expr.Call (Expr.Name (Str.ofString "_law_free") _) _ _ _) _); refine' se_callF (w217.2 _) ⟨rfl,rfl,rfl,rfl⟩ ?_ (by rfl) (by exact fun _ => rfl) (by decide) (by exact fun _ => by kernel_rfl))
   | ((with_reducible show SE _ (Expr.List [Expr.List [] _] _) _); refine' se_list (by rfl) (sa_cons (sLF sa_nil) sa_nil (by exact fun _ => rfl)))
   | ((with_reducible show SE _ (Expr.ListComp _ _ _ _) _); (refine' se_compF ?_ (by rfl) (by decide) (CmIs.ok (by repeat' (first | exact CmIs.nil | refine' CmIs.local ?_ | refine' CmIs.glob ?_ | refine' CmIs.cell ?_ | (refine' CmIs.free (aN (by rfl)) (by rfl) ?_)))) (by rfl) ?_ ?_ ?_ (by intro _ _; rfl) (by intro _ _; rfl)))
   | (first | (refine' se_name (aN (by rfl)) (by decide)) | (refine' se_glob (by rfl) (by exact fun _ => rfl) (by exact fun _ _ => .int _ _) (by decide)))
   | exact se_int
   | (first | refine' se_sub ?_ ?_ | refine' se_subL ?_ ?_)
   | (refine' se_bin ?_ ?_)
   | ((with_reducible show SE _ (Expr.Call (Expr.Name (Str.ofString "sum") _) _ _ _) _); refine' se_b1 (op_sum (by rfl)) (by rfl) (by exact fun _ => rfl) (by boot_fast) (by decide) (by decide) ?_)
   | (first | (refine' se_list (by rfl) ?_) | refine' sLF ?_)
   | (refine' se_dict (by rfl))
   | ((with_reducible show SE _ (Expr.Call (Expr.Attribute _ (Str.ofString "extend") _) _ _ _) _); refine' se_meth1 (get_list rfl PySem.F.slot_list_extend (by first | rfl | kernel_rfl)) (op_extend rfl) ?_ ?_)
   | (refine' src_val ?_ (by rfl))
   | (refine' as_name (aN (by rfl)) (by rfl))
   | (refine' as_cell (aN (by rfl)) (by rfl) (by rfl))
   | exact si_nil
   | (refine' st_cmp ?_ ?_ (by rfl))
   | exact sa_nil
   | (refine' sa_cons ?_ ?_ (by exact fun _ => rfl)))
 case c1 => rfl
 case c2 => intro vs h; rcases vs with _ | ⟨v,_ | _⟩ <;> first | rfl | (simp at h)
 case c3 => rfl
 case c4 => rfl
 case c5 => rfl
 case c6 => decide
 case c7 => decide
 case c8 => decide
 case c9 => rfl
 case c10 => rfl
noncomputable def w69 : { F : List AV → St → Option (AV × St) // ∀ n,Fn (n + 1) 69 F } := by
 refine' ⟨fOwn 2 4 _,fun n => fn_ownC (ps := [Str.ofString "x",Str.ofString "y"]) (fun P => rfl) (fun P => ?c1) ?c2 ?c3 ?c4 ?c5 ?c6 ?c7 ?c8 ?c9 ?c10 ?H⟩
 case H =>
  repeat' (first
   | exact sb_nil
   | ((with_reducible show SB _ (Stmt.Raise _ _ _ :: _) _); exact sb_none)
   | refine' sb_cons ?_ ?_
   | refine' ss_return ?_
   | refine' ss_if ?_ ?_ ?_
   | ((with_reducible show SS _ (Stmt.Assign [Expr.Name _ _] _ _) _); first | (refine' sAs ?_ (aN (by rfl)) (by rfl) (by exact fun _ => rfl)) | (refine' sAC ?_ (aN (by rfl)) (by rfl) (by rfl) (by exact fun _ => rfl)))
   | ((with_reducible show SE _ (Expr.Call (Expr.Name (Str.ofString "fsum") _) _ _ _) _); refine' se_g1 (op_fsum (by rfl)) (by rfl) (by exact fun _ => rfl) (by decide) ?_)
   | ((with_reducible show SE _ (Expr.Call (Expr.Name (Str.ofString "sumprod") _) _ _ _) _); exact se_sumprod (k1 := 0) (k2 := 4) (k3 := 1) (k4 := 5) rfl rfl rfl rfl rfl rfl rfl rfl rfl)
   | (first | (refine' se_name (aN (by rfl)) (by decide)) | (refine' se_glob (by rfl) (by exact fun _ => rfl) (by exact fun _ _ => .int _ _) (by decide)))
   | exact se_int
   | (refine' se_bin ?_ ?_)
   | ((with_reducible show SE _ (Expr.Call (Expr.Name (Str.ofString "len") _) _ _ _) _); refine' se_b1 op_len (by rfl) (by exact fun _ => rfl) (by boot_fast) (by decide) (by decide) ?_)
   | (refine' st_cmp ?_ ?_ (by rfl)))
 case c1 => rfl
 case c2 => intro vs h; rcases vs with _ | ⟨v,_ | ⟨w,_ | _⟩⟩ <;> first | rfl | (simp at h)
 case c3 => rfl
 case c4 => rfl
 case c5 => rfl
 case c6 => decide
 case c7 => decide
 case c8 => decide
 case c9 => rfl
 case c10 => rfl
theorem t69 : ∀ n,Throws (n + 1) 69 59 toldMs okOne := by
 intro n
 refine' throw_ownC (k := 4) (ps := [Str.ofString "x",Str.ofString "y"]) (E1 := fun xs => [xs[0]?,xs[1]?,some (.int 1),none,none,none]) (E2 := fun xs => [xs[0]?,xs[1]?,some (.int 1),none,none,none]) (E3 := fun xs => [xs[0]?,xs[1]?,some (.int 1),none,none,none]) (fun P => rfl) (fun P => ?c1) ?c2 ?c3 ?c4 ?c5 ?c6 ?c7 ?c8 ?c9 ?c10 ?h0 ?h1 ?ht ?hxg ?hxd ?hC ?hexc ?hok ?e0 ?e1 ?e2
 case h0 => repeat' (first
   | exact sb_nil
   | ((with_reducible show SB _ (Stmt.Raise _ _ _ :: _) _); exact sb_none)
   | refine' ss_if ?_ ?_ ?_
   | ((with_reducible show SS _ (Stmt.Assign [Expr.Name _ _] _ _) _); first | (refine' sAs ?_ (aN (by rfl)) (by rfl) (by exact fun _ => rfl)) | (refine' sAC ?_ (aN (by rfl)) (by rfl) (by rfl) (by exact fun _ => rfl)))
   | (first | (refine' se_name (aN (by rfl)) (by decide)) | (refine' se_glob (by rfl) (by exact fun _ => rfl) (by exact fun _ _ => .int _ _) (by decide)))
   | exact se_int
   | ((with_reducible show SE _ (Expr.Call (Expr.Name (Str.ofString "len") _) _ _ _) _); refine' se_b1 op_len (by rfl) (by exact fun _ => rfl) (by boot_fast) (by decide) (by decide) ?_)
   | (refine' st_cmp ?_ ?_ (by rfl)))
 case h1 => repeat' (first
   | exact sb_nil
   | ((with_reducible show SB _ (Stmt.Raise _ _ _ :: _) _); exact sb_none)
   | refine' ss_if ?_ ?_ ?_
   | ((with_reducible show SS _ (Stmt.Assign [Expr.Name _ _] _ _) _); first | (refine' sAs ?_ (aN (by rfl)) (by rfl) (by exact fun _ => rfl)) | (refine' sAC ?_ (aN (by rfl)) (by rfl) (by rfl) (by exact fun _ => rfl)))
   | (first | (refine' se_name (aN (by rfl)) (by decide)) | (refine' se_glob (by rfl) (by exact fun _ => rfl) (by exact fun _ _ => .int _ _) (by decide)))
   | exact se_int
   | ((with_reducible show SE _ (Expr.Call (Expr.Name (Str.ofString "len") _) _ _ _) _); refine' se_b1 op_len (by rfl) (by exact fun _ => rfl) (by boot_fast) (by decide) (by decide) ?_)
   | (refine' st_cmp ?_ ?_ (by rfl)))
 case ht => repeat' (first
   | exact sb_nil
   | ((with_reducible show SB _ (Stmt.Raise _ _ _ :: _) _); exact sb_none)
   | refine' ss_if ?_ ?_ ?_
   | ((with_reducible show SS _ (Stmt.Assign [Expr.Name _ _] _ _) _); first | (refine' sAs ?_ (aN (by rfl)) (by rfl) (by exact fun _ => rfl)) | (refine' sAC ?_ (aN (by rfl)) (by rfl) (by rfl) (by exact fun _ => rfl)))
   | (first | (refine' se_name (aN (by rfl)) (by decide)) | (refine' se_glob (by rfl) (by exact fun _ => rfl) (by exact fun _ _ => .int _ _) (by decide)))
   | exact se_int
   | ((with_reducible show SE _ (Expr.Call (Expr.Name (Str.ofString "len") _) _ _ _) _); refine' se_b1 op_len (by rfl) (by exact fun _ => rfl) (by boot_fast) (by decide) (by decide) ?_)
   | (refine' st_cmp ?_ ?_ (by rfl)))
 case c1 => rfl
 case c2 => intro vs h; rcases vs with _ | ⟨v,_ | ⟨w,_ | _⟩⟩ <;> first | rfl | (simp at h)
 case c3 => rfl
 case c4 => rfl
 case c5 => rfl
 case c6 => decide
 case c7 => decide
 case c8 => decide
 case c9 => rfl
 case c10 => rfl
 case hxg => rfl
 case hxd => rfl
 case hC => exact fun P => rfl
 case hexc => exact fun P => by kernel_rfl
 case hok => rintro xs ⟨x,y,rfl⟩; rfl
 case e0 => rintro xs h ⟨x,y,rfl⟩; rfl
 case e1 => rintro xs h ⟨x,y,rfl⟩; rfl
 case e2 => rintro xs h ⟨x,y,rfl⟩; rfl
noncomputable def w239 : { F : List AV → St → Option (AV × St) // ∀ n,Fn (n + 2) 239 F } := by
 refine' ⟨fOwn 2 1 _,fun n => fn_own (ps := [Str.ofString "one",Str.ofString "two"]) (fun P => rfl) (fun P => ?c1) ?c2 ?c3 ?c4 ?c5 ?c6 ?c7 ?c8 ?c9 ?c10 ?H⟩
 case H => exact sb_cons (ss_told (w69.2 n) (t69 n) rfl) sb_nil
 case c1 => rfl
 case c2 => intro vs h; rcases vs with _ | ⟨v,_ | ⟨w,_ | _⟩⟩ <;> first | rfl | (simp at h)
 case c3 => rfl
 case c4 => rfl
 case c5 => rfl
 case c6 => decide
 case c7 => decide
 case c8 => decide
 case c9 => rfl
 case c10 => rfl
set_option maxHeartbeats 3200000
noncomputable def w244 : { den : St → Option (AF × St) // LawAt 244 20 den } := by
 have h239 : ∀ n,Fn (n + 3) 239 w239.1 := fun n => w239.2 (n + 1)
 refine' ⟨_,law_at (x := Str.ofString "script") (fun P => ?c1) (fun P => ?c2) (fun P => ?c3) ?c4 ?c5 ?c6 ?c7 ?c8 ?c9 ?ca ?cb ?H⟩
 case c1 => rfl
 case H =>
  repeat' (first
   | exact sb_nil
   | refine' sb_cons ?_ ?_
   | ((with_reducible show SS _ (Stmt.Assign [Expr.Name _ _] (Expr.ListComp _ _ _ _) _) _); first | (refine' ss_assignCc ?_ (aN (by rfl)) (by rfl) (by rfl)) | (refine' ss_assign_compF ?_ (by rfl) (by decide) (CmIs.ok (by repeat' (first | exact CmIs.nil | refine' CmIs.local ?_ | refine' CmIs.glob ?_ | refine' CmIs.cell ?_ | (refine' CmIs.free (aN (by rfl)) (by rfl) ?_)))) (by rfl) ?_ ?_ ?_ (by intro _ _; rfl) (by intro _ _; rfl) (aN (by rfl)) (by rfl) (by rfl) (by rfl)))
   | exact ss_continue
   | refine' ss_return ?_
   | refine' ss_if ?_ ?_ ?_
   | ((with_reducible show SS _ (Stmt.Assign [Expr.Name _ _] _ _) _); first | (refine' sAs ?_ (aN (by rfl)) (by rfl) (by exact fun _ => rfl)) | (refine' sAC ?_ (aN (by rfl)) (by rfl) (by rfl) (by exact fun _ => rfl)))
   | ((with_reducible show SS _ (Stmt.Assign [Expr.Tuple _ _ _] _ _) _); refine' ss_unpack ?_ ?_ (by exact fun _ => rfl) (by exact fun _ => rfl))
   | (refine' ss_for ?_ ?_ ?_ LoOk.tuple (by rfl) (by rfl) (by intro _ _; rfl))
   | ((with_reducible show SE _ (Expr.Call (Expr.Name (Str.ofString "_law_needs") _) _ _ _) _); refine' se_callF (w203.2 _) ⟨rfl,rfl,rfl,rfl⟩ ?_ (by rfl) (by exact fun _ => rfl) (by decide) (by exact fun _ => by kernel_rfl))
   | ((with_reducible show SE _ (Expr.Call (Expr.Name (Str.ofString "_law_runs") _) _ _ _) _); refine' se_callF (w222.2 _) ⟨rfl,rfl,rfl,rfl⟩ ?_ (by rfl) (by exact fun _ => rfl) (by decide) (by exact fun _ => by kernel_rfl))
   | ((with_reducible show SE _ (Expr.Call (Expr.Name (Str.ofString "_law_orders") _) _ _ _) _); refine' se_callF (w227.2 _) ⟨rfl,rfl,rfl,rfl⟩ ?_ (by rfl) (by exact fun _ => rfl) (by decide) (by exact fun _ => by kernel_rfl))
   | ((with_reducible show SE _ (Expr.Call (Expr.Name (Str.ofString "_law_tied") _) _ _ _) _); refine' se_callF (w232.2 _) ⟨rfl,rfl,rfl,rfl⟩ ?_ (by rfl) (by exact fun _ => rfl) (by decide) (by exact fun _ => by kernel_rfl))
   | ((with_reducible show SE _ (Expr.Call (Expr.Name (Str.ofString "_law_told") _) _ _ _) _); refine' se_callF ((by assumption : ∀ n,Fn (n + 3) 239 _) _) ⟨rfl,rfl,rfl,rfl⟩ ?_ (by rfl) (by exact fun _ => rfl) (by decide) (by exact fun _ => by kernel_rfl))
   | ((with_reducible show SE _ (Expr.Call (Expr.Name (Str.ofString "_law_hours") _) _ _ _) _); refine' se_callQ (w210.2 _) rfl rfl ?_ (by rfl) (by exact fun _ => rfl) (by decide) (by exact fun _ => by kernel_rfl))
   | ((with_reducible show SE _ (Expr.Call (Expr.Name (Str.ofString "three_way_cmp") _) _ _ _) _); refine' se_callQ (w196.2 _) rfl rfl ?_ (by rfl) (by exact fun _ => rfl) (by decide) (by exact fun _ => by kernel_rfl))
   | ((with_reducible show SE _ (Expr.ListComp _ _ _ _) _); (refine' se_compF ?_ (by rfl) (by decide) (CmIs.ok (by repeat' (first | exact CmIs.nil | refine' CmIs.local ?_ | refine' CmIs.glob ?_ | refine' CmIs.cell ?_ | (refine' CmIs.free (aN (by rfl)) (by rfl) ?_)))) (by rfl) ?_ ?_ ?_ (by intro _ _; rfl) (by intro _ _; rfl)))
   | (first | (refine' se_name (aN (by rfl)) (by decide)) | (refine' se_glob (by rfl) (by exact fun _ => rfl) (by exact fun _ _ => .int _ _) (by decide)))
   | exact se_int
   | exact se_str
   | exact se_bool
   | (first | refine' se_sub ?_ ?_ | refine' se_subL ?_ ?_)
   | (refine' se_bin ?_ ?_)
   | (refine' se_cmp ?_ ?_ (by rfl))
   | (refine' se_bool1 ?_)
   | (refine' se_and ?_ ?_)
   | (refine' se_or ?_ ?_)
   | (refine' se_not ?_)
   | ((with_reducible show SE _ (Expr.Call (Expr.Name (Str.ofString "sum") _) _ _ _) _); refine' se_b1 (op_sum (by rfl)) (by rfl) (by exact fun _ => rfl) (by boot_fast) (by decide) (by decide) ?_)
   | ((with_reducible show SE _ (Expr.Call (Expr.Name (Str.ofString "sorted") _) _ _ _) _); refine' se_b1 op_sorted (by rfl) (by exact fun _ => rfl) (by boot_fast) (by decide) (by decide) ?_)
   | ((with_reducible show SE _ (Expr.Call (Expr.Attribute _ (Str.ofString "index") _) _ _ _) _); refine' se_meth1 (get_ints PySem.F.slot_list_index (by first | rfl | kernel_rfl)) op_index ?_ ?_)
   | ((with_reducible show SE _ (Expr.Call (Expr.Attribute _ (Str.ofString "count") _) _ _ _) _); refine' se_meth1 (get_ints PySem.F.slot_list_count (by first | rfl | kernel_rfl)) op_count ?_ ?_)
   | (first | (refine' se_list (by rfl) ?_) | refine' sLF ?_)
   | (refine' se_tuple ?_)
   | ((with_reducible show SE _ (Expr.Call (Expr.Name (Str.ofString "len") _) _ _ _) _); refine' se_b1 op_len (by rfl) (by exact fun _ => rfl) (by boot_fast) (by decide) (by decide) ?_)
   | ((with_reducible show Src _ (Expr.Call (Expr.Name (Str.ofString "range") _) _ _ _) _); refine' src_range ?_ (by rfl) (by rfl) (by exact fun _ => rfl) (by boot_fast) (by decide) (by decide))
   | (refine' src_val ?_ (by rfl))
   | (refine' as_name (aN (by rfl)) (by rfl))
   | (refine' as_cell (aN (by rfl)) (by rfl) (by rfl))
   | (refine' as_tup ?_ (by rfl) (by exact fun _ => rfl) (by exact fun _ => rfl))
   | exact al_nil
   | refine' al_cons ?_ ?_
   | exact si_nil
   | refine' si_one ?_
   | (refine' st_cmp ?_ ?_ (by rfl))
   | (refine' st_bool ?_)
   | (refine' st_not ?_)
   | (refine' st_plain ?_)
   | exact at_nil
   | refine' at_or ?_ ?_
   | exact sa_nil
   | (refine' sa_cons ?_ ?_ (by exact fun _ => rfl)))
 case c2 => rfl
 case c3 => kernel_rfl
 case c4 => intro v; rfl
 case c5 => rfl
 case c6 => rfl
 case c7 => rfl
 case c8 => decide
 case c9 => decide
 case ca => rfl
 case cb => rfl
theorem bo {α β : Type} {x : Option α} {a : α} {k : α → Option β} {r : Option β} (h : x = some a) (hk : k a = r) : (x >>= k) = r := by rw [h]; exact hk
theorem mo {α β : Type} {x : Option α} {a : α} {f : α → β} (h : x = some a) : x.map f = some (f a) := by rw [h]; rfl
theorem sq {f g : St → Option (AF × St)} {σ σ' : St} {r : Option (AF × St)} (h : f σ = some (.next,σ')) (hk : g σ' = r) : fSeq f g σ = r := by
 unfold fSeq; rw [h]; exact hk
theorem sqR {f g : St → Option (AF × St)} {σ σ' : St} {v : AV} (h : f σ = some (.ret v,σ')) : fSeq f g σ = some (.ret v,σ') := by
 unfold fSeq; rw [h]; rfl
theorem forS_inv {ta : AV → St → Option St} {fb : St → Option (AF × St)} {chk : St → Bool} (I : Nat → St → Prop) :
  ∀ (xs : List AV) (i : Nat) (σ : St),I i σ → (∀ (j : Nat) (x : AV) σ,xs[j]? = some x → I (i + j) σ → ∃ σ1 σ2,ta x σ = some σ1 ∧ (fb σ1 = some (.next,σ2) ∨ fb σ1 = some (.cont,σ2)) ∧ chk σ2 = true ∧ I (i + j + 1) σ2) →
   ∃ σ',forS ta fb chk xs σ = some (.next,σ') ∧ I (i + xs.length) σ' := by
 intro xs
 induction xs with
 | nil => intro i σ h _; exact ⟨σ,rfl,h⟩
 | cons x xs ih =>
  intro i σ h hs
  obtain ⟨σ1,σ2,h1,h2,h3,h4⟩ := hs 0 x σ rfl h
  obtain ⟨σ',h5,h6⟩ := ih (i + 1) σ2 h4 fun j y σ hy hI => by
   have := hs (j + 1) y σ hy (by rw [show i + (j + 1) = i + 1 + j by lia]; exact hI)
   rw [show i + (j + 1) = i + 1 + j by omega] at this
   exact this
  refine ⟨σ',?_,by rw [List.length_cons,show i + (xs.length + 1) = i + 1 + xs.length by lia]; exact h6⟩
  show (ta x σ >>= _) = _
  rw [h1]
  show (fb σ1 >>= _) = _
  rcases h2 with h2 | h2 <;> (rw [h2]; show (if chk σ2 = true then _ else _) = _; rw [if_pos h3]; exact h5)
theorem fC {ta : AV → St → Option St} {fb : St → Option (AF × St)} {chk : St → Bool} {x : AV} {xs : List AV} {σ σ1 σ2 : St} {r : Option (AF × St)} (h1 : ta x σ = some σ1) (h2 : fb σ1 = some (.next,σ2)) (h3 : chk σ2 = true) (h4 : forS ta fb chk xs σ2 = r) : forS ta fb chk (x :: xs) σ = r := by
 show (ta x σ >>= _) = _
 rw [h1]
 show (fb σ1 >>= _) = _
 rw [h2]
 show (if chk σ2 = true then _ else _) = _
 rw [if_pos h3]; exact h4
theorem enumG_get : ∀ (xs : List AV) (i j : Nat),(enumG i xs)[j]? = (xs[j]?).map fun x => .tp [.int ((i + j : Nat) : Int),x]
 | [],_,_ => rfl
 | x :: xs,i,0 => rfl
 | x :: xs,i,j + 1 => by
  show (enumG (i + 1) xs)[j]? = (xs[j]?).map _
  rw [enumG_get xs (i + 1) j,show i + 1 + j = i + (j + 1) by lia]
theorem pure_eq {np k : Nat} {den : St → Option (AF × St)} {xs : List AV} {σ σ' : St} {a : AF} {v : AV} (h : (decide (xs.length = np) && xs.all (flat 8)) = true) (hd : den ⟨env0 xs k,[]⟩ = some (a,σ')) (hv : frz σ'.heap 8 (retA a) = some v) : fPure np k den xs σ = some (v,σ) := by
 unfold fPure
 rw [Bool.and_eq_true] at h
 rw [if_pos ⟨of_decide_eq_true h.1,h.2⟩,hd]
 show (frz σ'.heap 8 (retA a) >>= _) = _
 rw [hv]; rfl
theorem toInts_map (ns : List Int) : toInts (ns.map AV.int) = some ns := by
 induction ns with
 | nil => rfl
 | cons n ns ih => simp [toInts,ih]
theorem flat_ints (k : Nat) (ns : List Int) : (ns.map AV.int).all (flat (k + 1)) = true := by
 rw [List.all_eq_true]
 intro x hx
 obtain ⟨n,_,rfl⟩ := List.mem_map.mp hx
 rfl
theorem allO_ints {H : List (AO × Nat)} {k : Nat} (ns : List Int) : allO (frz H (k + 1)) (ns.map AV.int) = some (ns.map AV.int) := by
 induction ns with
 | nil => rfl
 | cons n ns ih => show (frz H (k + 1) (.int n) >>= fun y => allO (frz H (k + 1)) (ns.map AV.int) >>= fun ys => some (y :: ys)) = _; rw [ih]; rfl
theorem four {w : Nat} (h : w < 4) : w = 0 ∨ w = 1 ∨ w = 2 ∨ w = 3 := by exact arh ‹_›
theorem below {m p : Nat} (hm : m < 4) (hp : p < m) : (m = 1 ∧ p = 0) ∨ (m = 2 ∧ p = 0) ∨ (m = 2 ∧ p = 1) ∨ (m = 3 ∧ p = 0) ∨ (m = 3 ∧ p = 1) ∨ (m = 3 ∧ p = 2) := by
 obtain rfl | rfl | rfl | rfl := four hm
 ·cases hp
 ·exact .inl ⟨rfl,Nat.lt_one_iff.mp hp⟩
 ·rcases Nat.lt_succ_iff_lt_or_eq.mp hp with h | rfl
  ·exact .inr (.inl ⟨rfl,Nat.lt_one_iff.mp h⟩)
  ·exact .inr (.inr (.inl ⟨rfl,rfl⟩))
 ·rcases Nat.lt_succ_iff_lt_or_eq.mp hp with h | rfl
  ·rcases Nat.lt_succ_iff_lt_or_eq.mp h with h | rfl
   ·exact .inr (.inr (.inr (.inl ⟨rfl,Nat.lt_one_iff.mp h⟩)))
   ·exact .inr (.inr (.inr (.inr (.inl ⟨rfl,rfl⟩))))
  ·exact .inr (.inr (.inr (.inr (.inr ⟨rfl,rfl⟩))))
noncomputable def ta2 (k1 k2 : Nat) : AV → St → Option St := fun v σ => unpV v σ >>= fun xs => if xs.length = 2 then fCons1 (fun v σ => some (setE k1 v σ)) (fCons1 (fun v σ => some (setE k2 v σ)) fun _ σ => some σ) xs σ else none
noncomputable def b203a : St → Option (AF × St) := fSeq (fun σ => fName 1 σ >>= fun p => (fName 2 p.2 >>= fun p => (some (AV.int 7,p.2) : Option (AV × St)) >>= fun q => (binV .Mod p.1 q.1 q.2).map fun v => (v,q.2)) >>= fun q => getI p.1 q.1 q.2 >>= fun old =>
 (fName 3 q.2 >>= fun p => (some (AV.int 4,p.2) : Option (AV × St)) >>= fun q => (binV .Mod p.1 q.1 q.2).map fun v => (v,q.2)) >>= fun t => iaddV .Add old t.1 t.2 >>= fun y => (putI p.1 q.1 y.1 y.2).map fun σ' => (AF.next,σ')) (fun σ => some (.next,σ))
noncomputable def b203b : St → Option (AF × St) := fSeq (fun σ => fName 4 σ >>= fun p => (fName 6 p.2 >>= fun p => (some (AV.int 1,p.2) : Option (AV × St)) >>= fun q => subV p.1 q.1 q.2) >>= fun q => getI p.1 q.1 q.2 >>= fun old =>
 ((fList (fCons (fun σ => fName 6 σ >>= fun p => (some (AV.int 0,p.2) : Option (AV × St)) >>= fun q => subV p.1 q.1 q.2) fun σ => some ([],σ)) q.2) >>= fun p =>
  (fB2 (fun σ => ((fName 1 σ >>= fun p => fName 2 p.2 >>= fun q => subV p.1 q.1 q.2) >>= fun p => (some (AV.int 4,p.2) : Option (AV × St)) >>= fun q => (binV .Mod p.1 q.1 q.2).map fun v => (v,q.2)) >>= fun p => (some (AV.int 1,p.2) : Option (AV × St)) >>= fun q => (binV .Sub p.1 q.1 q.2).map fun v => (v,q.2)) (fun σ => some (.int 0,σ)) maxV p.2) >>= fun q => (binV .Mult p.1 q.1 q.2).map fun v => (v,q.2)) >>= fun t =>
 iaddV .Add old t.1 t.2 >>= fun y => (putI p.1 q.1 y.1 y.2).map fun σ' => (AF.next,σ')) (fun σ => some (.next,σ))
theorem mod_int {i j : Int} {σ : St} (h : j ≠ 0) : binV .Mod (.int i) (.int j) σ = some (.int (i.fmod j)) := by
 show (if j = 0 then none else some (i.fmod j)).map AV.int = _
 rw [if_neg h]; rfl
theorem body203a {c : List Int} {v : Nat} {sc : AV} {i n : Int} {a b d : Option AV} (hc : c.length = 7) :
  ∃ c' : List Int,c'.length = 7 ∧ b203a ⟨[some sc,some (.ref 0),some (.int i),some (.int n),a,b,d],[(.list (c.map .int),v)]⟩ = some (.next,⟨[some sc,some (.ref 0),some (.int i),some (.int n),a,b,d],[(.list (c'.map .int),v + 1)]⟩) := by
 have h1 : 0 ≤ i.fmod 7 := Int.fmod_nonneg_of_pos i (by decide)
 have h2 : i.fmod 7 < 7 := Int.fmod_lt_of_pos i (by decide)
 obtain ⟨k,hk,hk7⟩ : ∃ k : Nat,i.fmod 7 = k ∧ k < 7 := ⟨(i.fmod 7).toNat,by exact ara ‹_›,by exact arc ‹_› ‹_›⟩
 obtain ⟨x,hx⟩ : ∃ x,c[k]? = some x := ⟨c[k]'(by omega),List.getElem?_eq_getElem _⟩
 refine ⟨c.set k (x + n.fmod 4),by rw [List.length_set]; exact hc,?_⟩
 unfold b203a
 refine sq (bo rfl (bo (bo rfl (bo rfl (mo (mod_int (by decide))))) (bo (a := .int x) ?_ (bo (bo rfl (bo rfl (mo (mod_int (by decide))))) (bo (a := (.int (x + n.fmod 4),_)) rfl (mo ?_)))))) rfl
 ·show (if 0 ≤ i.fmod 7 ∧ i.fmod 7 < 1000 then (c.map AV.int)[(i.fmod 7).toNat]? else none) = _
  rw [if_pos ⟨h1,by lia⟩,hk,Int.toNat_natCast,List.getElem?_map,hx]; rfl
 ·show (if 0 ≤ i.fmod 7 ∧ i.fmod 7 < 1000 ∧ i.fmod 7 < ((c.map AV.int).length : Nat) then _ else none) = _
  rw [if_pos ⟨h1,by omega,by rw [List.length_map,hc]; exact h2⟩,hk,Int.toNat_natCast,← List.map_set]
  rfl
theorem loop203a {c : List Int} {v : Nat} {sc : AV} {k n a b d : Option AV} (hc : c.length = 7) (ns : List Int) :
  ∃ c' : List Int,∃ v' k' n',c'.length = 7 ∧ forS (ta2 2 3) b203a (fun _ => true) (enumG 0 (ns.map .int)) ⟨[some sc,some (.ref 0),k,n,a,b,d],[(.list (c.map .int),v)]⟩ = some (.next,⟨[some sc,some (.ref 0),k',n',a,b,d],[(.list (c'.map .int),v')]⟩) := by
 obtain ⟨σ',h,c',v',k',n',hc',rfl⟩ := forS_inv (ta := ta2 2 3) (fb := b203a) (chk := fun _ => true) (fun _ σ => ∃ c' : List Int,∃ v' k' n',c'.length = 7 ∧ σ = ⟨[some sc,some (.ref 0),k',n',a,b,d],[(.list (c'.map .int),v')]⟩) (enumG 0 (ns.map .int)) 0 _ ⟨c,v,k,n,hc,rfl⟩ fun j x σ hx hI => by
  obtain ⟨c',v',k',n',hc',rfl⟩ := hI
  rw [enumG_get,List.getElem?_map] at hx
  obtain ⟨y,hy,rfl⟩ := Option.map_eq_some_iff.mp hx
  obtain ⟨m,_,rfl⟩ := Option.map_eq_some_iff.mp hy
  obtain ⟨c2,h2,h3⟩ := body203a (v := v') (sc := sc) (i := ((0 + j : Nat) : Int)) (n := m) (a := a) (b := b) (d := d) hc'
  exact ⟨_,_,rfl,.inl h3,rfl,c2,_,_,_,h2,rfl⟩
 exact ⟨c',v',k',n',hc',h⟩
noncomputable def H203 (c : List Int) (v0 : Nat) (L1 L2 L3 : List AV) (u1 u2 u3 v5 : Nat) (G : List (AO × Nat)) : List (AO × Nat) :=
 (.list (c.map .int),v0) :: (.list [],0) :: (.list L1,u1) :: (.list L2,u2) :: (.list L3,u3) :: (.list [.ref 1,.ref 2,.ref 3,.ref 4],v5) ::
  (.list [.tp [.int 0,.int 1],.tp [.int 0,.int 2],.tp [.int 1,.int 2],.tp [.int 0,.int 3],.tp [.int 1,.int 3],.tp [.int 2,.int 3]],0) :: G
theorem idx_nat {c : List AV} {j : Nat} {x : AV} (hj : j < 2 ^ 63) (h : c[j]? = some x) : idx c (j : Int) = some x := by
 unfold idx
 rw [if_pos (by exact Int.natCast_nonneg _),if_pos (by exact Int.ofNat_lt.mpr ‹_›),Int.toNat_natCast,h]
theorem idx_ints {c : List Int} {j : Nat} {x : Int} (hj : j < 2 ^ 63) (h : c[j]? = some x) : idx (c.map .int) (j : Int) = some (.int x) := idx_nat hj (by rw [List.getElem?_map,h]; rfl)
theorem max_m {a : Int} {m : Nat} {σ : St} (h : max a 0 = (m : Int)) : maxV (.int a) (.int 0) σ = some (.int m,σ) := by
 show some (AV.int (if (0 : Int) > a then 0 else a),σ) = _
 rw [← h]
 congr 3
 split <;> lia
theorem mul_rep {p : Int} {m g : Nat} {σ : St} {v : Nat} (hg : σ.heap[g]? = some (.list [.int p],v)) (hm : m ≤ 100) : binV .Mult (.ref g) (.int m) σ = some (.fl (List.replicate m (.int p))) := by
 show (spreadV (.ref g) σ >>= _) = _
 unfold spreadV
 simp only [hg]
 show (if 0 ≤ (m : Int) ∧ (m : Int) ≤ 100 ∧ [AV.int p].length ≤ 2 then some (AV.fl (List.replicate (m : Int).toNat [AV.int p]).flatten) else none) = _
 rw [if_pos ⟨by exact Int.natCast_nonneg _,by exact Int.ofNat_le.mpr ‹_›,show 1 ≤ 2 by decide⟩,Int.toNat_natCast]
 congr 2
 induction m with
 | zero => rfl
 | succ m ih => rw [List.replicate_succ,List.flatten_cons,ih (by exact Nat.le_of_lt ‹_›)]; rfl
theorem iadd_rep {n m k : Nat} {p : Int} {L : List AV} {σ : St} (hn : σ.heap[n]? = some (.list L,k)) (h : L.length + m < 1000) : iaddV .Add (.ref n) (.fl (List.replicate m (.int p))) σ = some (.ref n,turn σ n (.list (L ++ List.replicate m (.int p))) k) := by
 unfold iaddV
 simp only [hn]
 unfold spreadV
 simp only [List.length_replicate]
 rw [if_pos (by lia)]
 show (if L.length + (List.replicate m (AV.int p)).length < 1000 then _ else none) = _
 rw [List.length_replicate,if_pos h]
theorem turn203_0 {c : List Int} {cj : Int} {m v0 u1 u2 u3 v5 : Nat} {L1 L2 L3 : List AV} {sc : AV} {x3 : Option AV} (hc : c[0]? = some cj) (hm : max (cj.fmod 4 - 1) 0 = (m : Int)) (h2 : m ≤ 2) (hL : L1.length ≤ 100) :
  b203b ⟨[some sc,some (.ref 0),some (.int 0),x3,some (.ref 5),some (.ref 6),some (.tp [.int 0,.int 1])],H203 c v0 L1 L2 L3 u1 u2 u3 v5 []⟩ =
   some (.next,⟨[some sc,some (.ref 0),some (.int 0),x3,some (.ref 5),some (.ref 6),some (.tp [.int 0,.int 1])],H203 c v0 (L1 ++ List.replicate m (.int 0)) L2 L3 (u1 + 1) u2 u3 (v5 + 1) [(.list [.int 0],0)]⟩) := by
 unfold b203b
 refine sq (bo rfl (bo (bo rfl (bo rfl rfl)) (bo rfl (bo (bo rfl (bo (bo (bo (bo (bo rfl (bo rfl (mo (idx_ints (j := 0) (by decide) hc)))) (bo rfl (mo (mod_int (by decide))))) (bo rfl (mo rfl))) (bo rfl (max_m hm))) (mo (mul_rep (v := 0) rfl (by lia))))) (bo (iadd_rep (k := u1) rfl (by lia)) (mo rfl)))))) rfl
theorem turn203_1 {c : List Int} {cj : Int} {m v0 u1 u2 u3 v5 : Nat} {L1 L2 L3 : List AV} {sc : AV} {x3 : Option AV} (hc : c[1]? = some cj) (hm : max (cj.fmod 4 - 1) 0 = (m : Int)) (h2 : m ≤ 2) (hL : L2.length ≤ 100) :
  b203b ⟨[some sc,some (.ref 0),some (.int 1),x3,some (.ref 5),some (.ref 6),some (.tp [.int 0,.int 2])],H203 c v0 L1 L2 L3 u1 u2 u3 v5 [(.list [.int 0],0)]⟩ =
   some (.next,⟨[some sc,some (.ref 0),some (.int 1),x3,some (.ref 5),some (.ref 6),some (.tp [.int 0,.int 2])],H203 c v0 L1 (L2 ++ List.replicate m (.int 0)) L3 u1 (u2 + 1) u3 (v5 + 1) [(.list [.int 0],0),(.list [.int 0],0)]⟩) := by
 unfold b203b
 refine sq (bo rfl (bo (bo rfl (bo rfl rfl)) (bo rfl (bo (bo rfl (bo (bo (bo (bo (bo rfl (bo rfl (mo (idx_ints (j := 1) (by decide) hc)))) (bo rfl (mo (mod_int (by decide))))) (bo rfl (mo rfl))) (bo rfl (max_m hm))) (mo (mul_rep (v := 0) rfl (by omega))))) (bo (iadd_rep (k := u2) rfl (by omega)) (mo rfl)))))) rfl
theorem turn203_2 {c : List Int} {cj : Int} {m v0 u1 u2 u3 v5 : Nat} {L1 L2 L3 : List AV} {sc : AV} {x3 : Option AV} (hc : c[2]? = some cj) (hm : max (cj.fmod 4 - 1) 0 = (m : Int)) (h2 : m ≤ 2) (hL : L2.length ≤ 100) :
  b203b ⟨[some sc,some (.ref 0),some (.int 2),x3,some (.ref 5),some (.ref 6),some (.tp [.int 1,.int 2])],H203 c v0 L1 L2 L3 u1 u2 u3 v5 [(.list [.int 0],0),(.list [.int 0],0)]⟩ =
   some (.next,⟨[some sc,some (.ref 0),some (.int 2),x3,some (.ref 5),some (.ref 6),some (.tp [.int 1,.int 2])],H203 c v0 L1 (L2 ++ List.replicate m (.int 1)) L3 u1 (u2 + 1) u3 (v5 + 1) [(.list [.int 0],0),(.list [.int 0],0),(.list [.int 1],0)]⟩) := by
 unfold b203b
 refine sq (bo rfl (bo (bo rfl (bo rfl rfl)) (bo rfl (bo (bo rfl (bo (bo (bo (bo (bo rfl (bo rfl (mo (idx_ints (j := 2) (by decide) hc)))) (bo rfl (mo (mod_int (by decide))))) (bo rfl (mo rfl))) (bo rfl (max_m hm))) (mo (mul_rep (v := 0) rfl (by omega))))) (bo (iadd_rep (k := u2) rfl (by omega)) (mo rfl)))))) rfl
theorem turn203_3 {c : List Int} {cj : Int} {m v0 u1 u2 u3 v5 : Nat} {L1 L2 L3 : List AV} {sc : AV} {x3 : Option AV} (hc : c[3]? = some cj) (hm : max (cj.fmod 4 - 1) 0 = (m : Int)) (h2 : m ≤ 2) (hL : L3.length ≤ 100) :
  b203b ⟨[some sc,some (.ref 0),some (.int 3),x3,some (.ref 5),some (.ref 6),some (.tp [.int 0,.int 3])],H203 c v0 L1 L2 L3 u1 u2 u3 v5 [(.list [.int 0],0),(.list [.int 0],0),(.list [.int 1],0)]⟩ =
   some (.next,⟨[some sc,some (.ref 0),some (.int 3),x3,some (.ref 5),some (.ref 6),some (.tp [.int 0,.int 3])],H203 c v0 L1 L2 (L3 ++ List.replicate m (.int 0)) u1 u2 (u3 + 1) (v5 + 1) [(.list [.int 0],0),(.list [.int 0],0),(.list [.int 1],0),(.list [.int 0],0)]⟩) := by
 unfold b203b
 refine sq (bo rfl (bo (bo rfl (bo rfl rfl)) (bo rfl (bo (bo rfl (bo (bo (bo (bo (bo rfl (bo rfl (mo (idx_ints (j := 3) (by decide) hc)))) (bo rfl (mo (mod_int (by decide))))) (bo rfl (mo rfl))) (bo rfl (max_m hm))) (mo (mul_rep (v := 0) rfl (by omega))))) (bo (iadd_rep (k := u3) rfl (by omega)) (mo rfl)))))) rfl
theorem turn203_4 {c : List Int} {cj : Int} {m v0 u1 u2 u3 v5 : Nat} {L1 L2 L3 : List AV} {sc : AV} {x3 : Option AV} (hc : c[4]? = some cj) (hm : max (cj.fmod 4 - 1) 0 = (m : Int)) (h2 : m ≤ 2) (hL : L3.length ≤ 100) :
  b203b ⟨[some sc,some (.ref 0),some (.int 4),x3,some (.ref 5),some (.ref 6),some (.tp [.int 1,.int 3])],H203 c v0 L1 L2 L3 u1 u2 u3 v5 [(.list [.int 0],0),(.list [.int 0],0),(.list [.int 1],0),(.list [.int 0],0)]⟩ =
   some (.next,⟨[some sc,some (.ref 0),some (.int 4),x3,some (.ref 5),some (.ref 6),some (.tp [.int 1,.int 3])],H203 c v0 L1 L2 (L3 ++ List.replicate m (.int 1)) u1 u2 (u3 + 1) (v5 + 1) [(.list [.int 0],0),(.list [.int 0],0),(.list [.int 1],0),(.list [.int 0],0),(.list [.int 1],0)]⟩) := by
 unfold b203b
 refine sq (bo rfl (bo (bo rfl (bo rfl rfl)) (bo rfl (bo (bo rfl (bo (bo (bo (bo (bo rfl (bo rfl (mo (idx_ints (j := 4) (by decide) hc)))) (bo rfl (mo (mod_int (by decide))))) (bo rfl (mo rfl))) (bo rfl (max_m hm))) (mo (mul_rep (v := 0) rfl (by omega))))) (bo (iadd_rep (k := u3) rfl (by omega)) (mo rfl)))))) rfl
theorem turn203_5 {c : List Int} {cj : Int} {m v0 u1 u2 u3 v5 : Nat} {L1 L2 L3 : List AV} {sc : AV} {x3 : Option AV} (hc : c[5]? = some cj) (hm : max (cj.fmod 4 - 1) 0 = (m : Int)) (h2 : m ≤ 2) (hL : L3.length ≤ 100) :
  b203b ⟨[some sc,some (.ref 0),some (.int 5),x3,some (.ref 5),some (.ref 6),some (.tp [.int 2,.int 3])],H203 c v0 L1 L2 L3 u1 u2 u3 v5 [(.list [.int 0],0),(.list [.int 0],0),(.list [.int 1],0),(.list [.int 0],0),(.list [.int 1],0)]⟩ =
   some (.next,⟨[some sc,some (.ref 0),some (.int 5),x3,some (.ref 5),some (.ref 6),some (.tp [.int 2,.int 3])],H203 c v0 L1 L2 (L3 ++ List.replicate m (.int 2)) u1 u2 (u3 + 1) (v5 + 1) [(.list [.int 0],0),(.list [.int 0],0),(.list [.int 1],0),(.list [.int 0],0),(.list [.int 1],0),(.list [.int 2],0)]⟩) := by
 unfold b203b
 refine sq (bo rfl (bo (bo rfl (bo rfl rfl)) (bo rfl (bo (bo rfl (bo (bo (bo (bo (bo rfl (bo rfl (mo (idx_ints (j := 5) (by decide) hc)))) (bo rfl (mo (mod_int (by decide))))) (bo rfl (mo rfl))) (bo rfl (max_m hm))) (mo (mul_rep (v := 0) rfl (by omega))))) (bo (iadd_rep (k := u3) rfl (by omega)) (mo rfl)))))) rfl
noncomputable def mOf (x : Int) : Nat := (max (x.fmod 4 - 1) 0).toNat
theorem mOf_eq (x : Int) : max (x.fmod 4 - 1) 0 = (mOf x : Int) ∧ mOf x ≤ 2 := by
 have h1 : 0 ≤ x.fmod 4 := Int.fmod_nonneg_of_pos x (by decide)
 have h2 : x.fmod 4 < 4 := Int.fmod_lt_of_pos x (by decide)
 have h3 : (0 : Int) ≤ max (x.fmod 4 - 1) 0 := Int.le_max_right _ _
 refine ⟨(Int.toNat_of_nonneg h3).symm,Int.toNat_le.mpr (Int.max_le.mpr ⟨by lia,by decide⟩)⟩
noncomputable def rp (m : Nat) (k : Int) : List AV := List.replicate m (.int k)
noncomputable def needN (a b c d e f : Nat) : Nat → List Int
 | 1 => List.replicate a 0
 | 2 => List.replicate b 0 ++ List.replicate c 1
 | 3 => (List.replicate d 0 ++ List.replicate e 1) ++ List.replicate f 2
 | _ => []
theorem seven {c : List Int} (h : c.length = 7) : ∃ c0 c1 c2 c3 c4 c5 c6,c = [c0,c1,c2,c3,c4,c5,c6] := by
 rcases c with _ | ⟨c0,_ | ⟨c1,_ | ⟨c2,_ | ⟨c3,_ | ⟨c4,_ | ⟨c5,_ | ⟨c6,_ | ⟨c7,c⟩⟩⟩⟩⟩⟩⟩⟩ <;> first | exact ⟨_,_,_,_,_,_,_,rfl⟩ | (simp at h; done)
theorem rp_map (m : Nat) (k : Int) : rp m k = (List.replicate m k).map AV.int := by
 unfold rp; rw [List.map_replicate]
theorem loop203b {c0 c1 c2 c3 c4 c5 c6 : Int} {v0 : Nat} {sc : AV} {x2 x3 : Option AV} : ∃ u1 u2 u3 v5 G x2' x3' x6',
  forS (ta2 2 6) b203b (verAt 6 0) (enumG 0 [.tp [.int 0,.int 1],.tp [.int 0,.int 2],.tp [.int 1,.int 2],.tp [.int 0,.int 3],.tp [.int 1,.int 3],.tp [.int 2,.int 3]]) ⟨[some sc,some (.ref 0),x2,x3,some (.ref 5),some (.ref 6),none],H203 [c0,c1,c2,c3,c4,c5,c6] v0 [] [] [] 0 0 0 0 []⟩ =
   some (.next,⟨[some sc,some (.ref 0),x2',x3',some (.ref 5),some (.ref 6),x6'],H203 [c0,c1,c2,c3,c4,c5,c6] v0 ([] ++ rp (mOf c0) 0) ([] ++ rp (mOf c1) 0 ++ rp (mOf c2) 1) ([] ++ rp (mOf c3) 0 ++ rp (mOf c4) 1 ++ rp (mOf c5) 2) u1 u2 u3 v5 G⟩) := by
 have e0 := mOf_eq c0
 have e1 := mOf_eq c1
 have e2 := mOf_eq c2
 have e3 := mOf_eq c3
 have e4 := mOf_eq c4
 have e5 := mOf_eq c5
 have rl : ∀ m k,(rp m k).length = m := fun m k => List.length_replicate
 exact ⟨_,_,_,_,_,_,_,_,fC rfl (turn203_0 rfl e0.1 e0.2 (by simp)) rfl (fC rfl (turn203_1 rfl e1.1 e1.2 (by simp)) rfl
  (fC rfl (turn203_2 rfl e2.1 e2.2 (by rw [List.length_append]; show 0 + (rp _ _).length ≤ 100; rw [rl]; omega)) rfl (fC rfl (turn203_3 rfl e3.1 e3.2 (by simp)) rfl
  (fC rfl (turn203_4 rfl e4.1 e4.2 (by rw [List.length_append]; show 0 + (rp _ _).length ≤ 100; rw [rl]; omega)) rfl (fC rfl (turn203_5 rfl e5.1 e5.2 (by rw [List.length_append,List.length_append]; show 0 + (rp _ _).length + (rp _ _).length ≤ 100; rw [rl,rl]; omega)) rfl rfl)))))⟩
theorem m1 {fo fa : St → Option (AV × St)} {pre : AV → St → Bool} {op : AV → AV → St → Option (AV × St)} {σ : St} {p q : AV × St} {r : Option (AV × St)} (h1 : fo σ = some p) (h2 : pre p.1 p.2 = true) (h3 : fa p.2 = some q) (h4 : op p.1 q.1 q.2 = r) : fM1 fo fa pre op σ = r := by
 unfold fM1; rw [h1]; show (if pre p.1 p.2 = true then _ else _) = _; rw [if_pos h2,h3]; exact h4
theorem m0 {fo : St → Option (AV × St)} {pre : AV → St → Bool} {op : AV → St → Option (AV × St)} {σ : St} {p : AV × St} {r : Option (AV × St)} (h1 : fo σ = some p) (h2 : pre p.1 p.2 = true) (h4 : op p.1 p.2 = r) : fM0 fo pre op σ = r := by
 unfold fM0; rw [h1]; show (if pre p.1 p.2 = true then _ else _) = _; rw [if_pos h2]; exact h4
theorem apE {σ : St} {n k : Nat} {xs : List AV} {x : AV} (h : σ.heap[n]? = some (.list xs,k)) (hl : xs.length < 1000) : appendV (.ref n) x σ = some (.none,turn σ n (.list (xs ++ [x])) k) := by
 unfold appendV; simp only [h]; rw [if_pos hl]
noncomputable def kv4 (m : Nat) : List (Int × AV) := [(0,.ref 3),(1,.ref 5),(2,.ref 7),(3,.ref 9)].take m
noncomputable def FM (m : Nat) (v : Nat → Nat) (S : Nat → List AV) (q : Nat → Int) : List (AO × Nat) :=
 (.dict (kv4 m),v 0) :: (.inst (.ref 0) .none (.int 0) (.int 0),v 1) :: [(.list (S 0),v 2),(.info 0 (q 0) 2,v 3),(.list (S 1),v 4),(.info 1 (q 1) 4,v 5),(.list (S 2),v 6),(.info 2 (q 2) 6,v 7),(.list (S 3),v 8),(.info 3 (q 3) 8,v 9)].take (2 * m)
noncomputable def b135 : St → Option (AF × St) := fSeq (fun σ => fOwnM (fName 0) (fCons (fName 4) fun σ => some ([],σ)) w128.1 σ >>= fun p => some (AF.next,setE 5 p.1 p.2))
 (fSeq (fun σ => fM1 (fun σ => fName 5 σ >>= fun p => getF Fld.succ p.1 p.2) (fName 1) isL appendV σ >>= fun p => some (AF.next,p.2)) fun σ => some (AF.next,σ))
noncomputable def up {α : Type} (f : Nat → α) (i : Nat) (x : α) : Nat → α := fun j => if j = i then x else f j
theorem ownM {fo : St → Option (AV × St)} {fa : St → Option (List AV × St)} {F : List AV → St → Option (AV × St)} {σ : St} {p : AV × St} {q : List AV × St} {r : Option (AV × St)} (h1 : fo σ = some p) (h2 : isI p.1 p.2 = true) (h3 : fa p.2 = some q) (h4 : F (p.1 :: q.1) q.2 = r) : fOwnM fo fa F σ = r := by
 unfold fOwnM; rw [h1]; show (if isI p.1 p.2 = true then _ else _) = _; rw [if_pos h2,h3]; exact h4
theorem old128 {m p : Nat} (hm : m < 4) (hp : p ≤ m) {env : List (Option AV)} {v : Nat → Nat} {S : Nat → List AV} {q : Nat → Int} : w128.1 [.ref 1,.int (p : Int)] ⟨env,FM (m + 1) v S q⟩ = some (.ref (3 + 2 * p),⟨env,FM (m + 1) v S q⟩) := by
 rcases Nat.lt_or_eq_of_le hp with h | rfl
 ·obtain ⟨rfl,rfl⟩ | ⟨rfl,rfl⟩ | ⟨rfl,rfl⟩ | ⟨rfl,rfl⟩ | ⟨rfl,rfl⟩ | ⟨rfl,rfl⟩ := below hm h
  all_goals kernel_rfl
 ·obtain rfl | rfl | rfl | rfl := four hm
  all_goals kernel_rfl
theorem new128 {m : Nat} (hm : m < 4) {env : List (Option AV)} {v : Nat → Nat} {S : Nat → List AV} {q : Nat → Int} : w128.1 [.ref 1,.int (m : Int)] ⟨env,FM m v S q⟩ = some (.ref (3 + 2 * m),⟨env,FM (m + 1) (up (up (up v 0 (v 0 + 1)) (2 + 2 * m) 0) (3 + 2 * m) 0) (up S m []) (up q m 0)⟩) := by
 obtain rfl | rfl | rfl | rfl := four (w := m) (by assumption)
 all_goals kernel_rfl
theorem turn135 {m p : Nat} (hm : m < 4) (hp : p < m) {v : Nat → Nat} {S : Nat → List AV} {q : Nat → Int} {a b d e : Option AV} (hS : (S p).length < 1000) :
  b135 ⟨[some (.ref 1),some (.int (m : Int)),a,b,some (.int (p : Int)),d,e],FM (m + 1) v S q⟩ = some (.next,⟨[some (.ref 1),some (.int (m : Int)),a,b,some (.int (p : Int)),some (.ref (3 + 2 * p)),e],FM (m + 1) (up v (2 + 2 * p) (v (2 + 2 * p) + 1)) (up S p (S p ++ [.int (m : Int)])) q⟩) := by
 unfold b135
 refine sq (bo (ownM rfl (by rfl) rfl (old128 hm (Nat.le_of_lt hp))) rfl) ?_
 obtain ⟨rfl,rfl⟩ | ⟨rfl,rfl⟩ | ⟨rfl,rfl⟩ | ⟨rfl,rfl⟩ | ⟨rfl,rfl⟩ | ⟨rfl,rfl⟩ := below hm hp
 all_goals exact sq (bo (m1 rfl rfl rfl (apE rfl hS)) rfl) rfl
noncomputable def segA (ps : List Int) (w m : Nat) : List AV := (ps.filter (· == (w : Int))).map fun _ => AV.int (m : Int)
theorem fm_S {m : Nat} {v : Nat → Nat} {S S' : Nat → List AV} {q : Nat → Int} (h : ∀ w,w < 4 → S w = S' w) : FM m v S q = FM m v S' q := by
 unfold FM; rw [h 0 (by decide),h 1 (by decide),h 2 (by decide),h 3 (by decide)]
theorem loop135 {m : Nat} (hm : m < 4) {q : Nat → Int} {a b e : Option AV} : ∀ (ps : List Int) (v : Nat → Nat) (S : Nat → List AV) (c d : Option AV),(∀ x ∈ ps,0 ≤ x ∧ x < (m : Int)) → (∀ w,(S w).length + ps.length < 1000) →
  ∃ v' c' d',forS (fun v σ => some (setE 4 v σ)) b135 (fun _ => true) (ps.map .int) ⟨[some (.ref 1),some (.int (m : Int)),a,b,c,d,e],FM (m + 1) v S q⟩ =
   some (.next,⟨[some (.ref 1),some (.int (m : Int)),a,b,c',d',e],FM (m + 1) v' (fun w => S w ++ segA ps w m) q⟩)
 | [],v,S,c,d,_,_ => ⟨v,c,d,by rw [show (fun w => S w ++ segA [] w m) = S from funext fun w => List.append_nil _]; rfl⟩
 | x :: ps,v,S,c,d,hp,hS => by
  obtain ⟨p,rfl⟩ : ∃ p : Nat,x = p := ⟨x.toNat,by have := (hp x (.head _)).1; exact ara ‹_›⟩
  have hpm : p < m := by have := (hp _ (.head _)).2; simp_all
  have hl : ∀ w,(S w).length + (ps.length + 1) < 1000 := fun w => by have := hS w; rw [List.length_cons] at this; exact this
  have t := turn135 hm hpm (v := v) (S := S) (q := q) (a := a) (b := b) (d := d) (e := e) (by have := hl p; exact ars ‹_›)
  obtain ⟨v',c',d',h⟩ := loop135 hm (q := q) (a := a) (b := b) (e := e) ps (up v (2 + 2 * p) (v (2 + 2 * p) + 1)) (up S p (S p ++ [.int (m : Int)])) (some (.int (p : Int))) (some (.ref (3 + 2 * p))) (fun y hy => hp y (.tail _ hy)) fun w => by
   have := hl w
   unfold up
   split
   ·rename_i e; subst e; rw [List.length_append,List.length_singleton]; lia
   ·exact Nat.lt_of_succ_lt ‹_›
  refine ⟨v',c',d',fC (σ1 := ⟨[some (.ref 1),some (.int (m : Int)),a,b,some (.int (p : Int)),d,e],_⟩) rfl t rfl (h.trans ?_)⟩
  rw [fm_S (S' := fun w => S w ++ segA ((p : Int) :: ps) w m)]
  intro w _
  show up S p (S p ++ [.int (m : Int)]) w ++ segA ps w m = S w ++ segA ((p : Int) :: ps) w m
  unfold up segA
  rw [List.filter_cons]
  by_cases hw : w = p
  ·subst hw
   rw [if_pos rfl,if_pos (by simp),List.map_cons,List.append_assoc]; rfl
  ·rw [if_neg hw,if_neg (by simp; lia)]
theorem own_at {β : Type} {den : St → Option (AF × St)} {e0 e : List (Option AV)} {h : List (AO × Nat)} {k : AF × St → Option β} {r : Option β} (he : e0 = e) (hd : (den ⟨e,h⟩ >>= k) = r) : (den ⟨e0,h⟩ >>= k) = r := by subst he; exact hd
theorem add_eq {m : Nat} (hm : m < 4) {env : List (Option AV)} {v : Nat → Nat} {S : Nat → List AV} {q : Nat → Int} {ps : List Int} (hp : ∀ x ∈ ps,0 ≤ x ∧ x < (m : Int)) (hl : ps.length ≤ 6) (hS : ∀ w,(S w).length ≤ 100) :
  ∃ v',w135.1 (.ref 1 :: .int (m : Int) :: ps.map .int) ⟨env,FM m v S q⟩ = some (.none,⟨env,FM (m + 1) v' (fun w => up S m [] w ++ segA ps w m) (up q m ps.length)⟩) := by
 have hS' : ∀ w,(up S m [] w).length + ps.length < 1000 := fun w => by
  have := hS w
  unfold up
  split <;> simp <;> lia
 obtain ⟨v',c',d',h⟩ := loop135 hm (q := up q m ps.length) (a := some (.tp (ps.map .int))) (b := some (.ref (3 + 2 * m))) (e := none) ps (up (up (up (up v 0 (v 0 + 1)) (2 + 2 * m) 0) (3 + 2 * m) 0) (3 + 2 * m) 1) (up S m []) none none hp hS'
 refine ⟨v',?_⟩
 show (if 2 ≤ (ps.map AV.int).length + 1 + 1 ∧ (ps.map AV.int).length + 1 + 1 ≤ 2 + 6 then _ else none) = _
 rw [List.length_map,if_pos ⟨by exact Nat.le_add_left _ _,by simp_all⟩]
 refine own_at (e := [some (.ref 1),some (.int (m : Int)),some (.tp (ps.map .int)),none,none,none,none]) rfl ?_
 refine bo (a := (AF.next,⟨[some (.ref 1),some (.int (m : Int)),some (.tp (ps.map .int)),some (.ref (3 + 2 * m)),c',d',none],FM (m + 1) v' (fun w => up S m [] w ++ segA ps w m) (up q m ps.length)⟩)) ?_ rfl
 refine sq (σ' := ⟨[some (.ref 1),some (.int (m : Int)),some (.tp (ps.map .int)),none,none,none,none],FM m v S q⟩) rfl (sq (bo (ownM rfl (by rfl) rfl (new128 hm)) rfl) (sq (σ' := ⟨[some (.ref 1),some (.int (m : Int)),some (.tp (ps.map .int)),some (.ref (3 + 2 * m)),none,none,none],FM (m + 1) (up (up (up (up v 0 (v 0 + 1)) (2 + 2 * m) 0) (3 + 2 * m) 0) (3 + 2 * m) 1) (up S m []) (up q m ps.length)⟩) ?_ (sq (f := fFor _ _ _) (bo rfl (bo rfl h)) rfl)))
 have : fB1 (fName (0 + 1 + 1)) lenV ⟨[some (.ref 1),some (.int (m : Int)),some (.tp (ps.map .int)),some (.ref (3 + 2 * m)),none,none,none],FM (m + 1) (up (up (up v 0 (v 0 + 1)) (2 + 2 * m) 0) (3 + 2 * m) 0) (up S m []) (up q m 0)⟩ = some (.int ps.length,⟨[some (.ref 1),some (.int (m : Int)),some (.tp (ps.map .int)),some (.ref (3 + 2 * m)),none,none,none],FM (m + 1) (up (up (up v 0 (v 0 + 1)) (2 + 2 * m) 0) (3 + 2 * m) 0) (up S m []) (up q m 0)⟩) := by
  refine bo rfl ?_
  show (if (ps.map AV.int).length < 1000 then some (AV.int (ps.map AV.int).length,_) else none) = _
  rw [List.length_map,if_pos (by omega)]
 refine bo rfl (bo (a := (.int 0,_)) ?_ (bo this (bo (a := .int ps.length) ?_ (mo ?_))))
 ·obtain rfl | rfl | rfl | rfl := four (w := m) (by assumption)
  all_goals rfl
 ·show some (AV.int (0 + ps.length)) = _
  rw [Int.zero_add]
 ·obtain rfl | rfl | rfl | rfl := four (w := m) (by assumption)
  all_goals rfl
noncomputable def In4 (rs : List Int) : Prop := ∀ w ∈ rs,0 ≤ w ∧ w < 4
theorem count4 {rs : List Int} (h : In4 rs) : rs.length = rs.count 0 + rs.count 1 + rs.count 2 + rs.count 3 := by
 induction rs with
 | nil => rfl
 | cons a r ih =>
  have ih := ih fun w hw => h w (.tail _ hw)
  have ha := h a (.head _)
  rw [List.length_cons,List.count_cons,List.count_cons,List.count_cons,List.count_cons,ih]
  rcases (by lia : a = 0 ∨ a = 1 ∨ a = 2 ∨ a = 3) with e | e | e | e <;> subst e <;> simp <;> omega
theorem nodup4_length {rs : List Int} (h : rs.Nodup) (h4 : In4 rs) : rs.length ≤ 4 := by
 have := count4 h4
 have h0 := List.nodup_iff_count.mp h 0
 have h1 := List.nodup_iff_count.mp h 1
 have h2 := List.nodup_iff_count.mp h 2
 have h3 := List.nodup_iff_count.mp h 3
 lia
noncomputable def FR (v : Nat → Nat) (rd : AV) (po nf : Int) (S : Nat → List AV) (q : Nat → Int) (T : List (AO × Nat)) : List (AO × Nat) :=
 (.dict [(0,.ref 3),(1,.ref 5),(2,.ref 7),(3,.ref 9)],v 0) :: (.inst (.ref 0) rd (.int po) (.int nf),v 1) :: (.list (S 0),v 2) :: (.info 0 (q 0) 2,v 3) :: (.list (S 1),v 4) :: (.info 1 (q 1) 4,v 5) :: (.list (S 2),v 6) :: (.info 2 (q 2) 6,v 7) :: (.list (S 3),v 8) :: (.info 3 (q 3) 8,v 9) :: T
noncomputable abbrev Ets := Nat × Nat × Nat
noncomputable def nodesA : List Ets → List AV
 | [] => []
 | t :: r => nodesA r ++ [.int (t.1 : Int)]
noncomputable def nxtA : List Ets → List AV
 | [] => []
 | t :: r => nxtA r ++ [.nxt (t.2.1 + 15)]
noncomputable def dictP : List Ets → List (Int × Int)
 | [] => []
 | t :: r => dictP r ++ [((t.1 : Int),(r.length : Int))]
theorem nodesA_len : ∀ st : List Ets,(nodesA st).length = st.length
 | [] => rfl
 | t :: r => by rw [nodesA,List.length_append,nodesA_len r]; rfl
theorem nxtA_len : ∀ st : List Ets,(nxtA st).length = st.length
 | [] => rfl
 | t :: r => by rw [nxtA,List.length_append,nxtA_len r]; rfl
theorem dictP_len : ∀ st : List Ets,(dictP st).length = st.length
 | [] => rfl
 | t :: r => by rw [dictP,List.length_append,dictP_len r]; rfl
theorem dictP_mem : ∀ {st : List Ets} {e : Int × Int},e ∈ dictP st → ∃ p ∈ st,e.1 = (p.1 : Int)
 | t :: r,e,h => by
  rw [dictP,List.mem_append,List.mem_singleton] at h
  rcases h with h | rfl
  ·obtain ⟨p,hp,he⟩ := dictP_mem h
   exact ⟨p,.tail _ hp,he⟩
  ·exact ⟨t,.head _,rfl⟩
theorem toPairs_of : ∀ c : List (Int × Int),toPairs (ofPairs c) = some c
 | [] => rfl
 | (k,v) :: c => by
  show (toPairs (ofPairs c)).map _ = _
  rw [toPairs_of c]; rfl
theorem ofPairs_app (c d : List (Int × Int)) : ofPairs (c ++ d) = ofPairs c ++ ofPairs d := List.map_append ..
theorem pop_eq {σ : St} {n k : Nat} {xs : List AV} {x : AV} (h : σ.heap[n]? = some (.list (xs ++ [x]),k)) (hl : xs.length < 900) : popV (.ref n) σ = some (x,turn σ n (.list xs) k) := by
 unfold popV; simp only [h]
 rw [if_pos (by rw [List.length_append]; simp; lia),List.getLast?_append]
 simp
theorem last_eq {σ : St} {n k : Nat} {xs : List AV} {x : AV} (h : σ.heap[n]? = some (.list (xs ++ [x]),k)) (hl : xs.length < 900) : subV (.ref n) (.int (-1)) σ = some (x,σ) := by
 unfold subV; simp only [h]
 unfold idx
 rw [if_neg (by decide),if_pos (by rw [List.length_append]; simp; lia)]
 rw [show (((xs ++ [x]).length : Int) + -1).toNat = xs.length by rw [List.length_append,List.length_singleton]; lia]
 simp
theorem del_eq {σ : St} {n k : Nat} {c : List (Int × Int)} {m : Int} {i : Int} (h : σ.heap[n]? = some (.dict (ofPairs (c ++ [(m,i)])),k)) (hl : c.length < 900) (hm : ∀ e ∈ c,e.1 ≠ m) : delI (.ref n) (.int m) σ = some (turn σ n (.dict (ofPairs c)) k) := by
 unfold delI; simp only [h]
 rw [toPairs_of]
 dsimp only
 rw [if_pos ⟨by rw [List.length_append]; simp; lia,by unfold kdfHas; simp⟩]
 congr 3
 unfold kdyDel
 rw [List.filter_append]
 have : c.filter (fun p => !decide (p.1 = m)) = c := List.filter_eq_self.mpr fun e he => by simp [hm e he]
 rw [this]; simp
theorem sqB {f g : St → Option (AF × St)} {σ σ' : St} (h : f σ = some (.brk,σ')) : fSeq f g σ = some (.brk,σ') := by
 unfold fSeq; rw [h]; rfl
section
variable {v : Nat → Nat} {rd : AV} {po nf : Int} {S : Nat → List AV} {q : Nat → Int} {R : AO × Nat}
noncomputable def ZH (v : Nat → Nat) (rd : AV) (po nf : Int) (S : Nat → List AV) (q : Nat → Int) (R : AO × Nat) (st : List Ets) (X : List Int) (its : List (AO × Nat)) (w : Nat → Nat) : List (AO × Nat) :=
 FR v rd po nf S q (R :: (.list (nodesA st),w 0) :: (.list (nxtA st),w 1) :: (.set X,w 2) :: (.dict (ofPairs (dictP st)),w 3) :: its)
noncomputable def ZE (x6 : Option AV) : List (Option AV) := [some (.ref 1),some (.ref 0),some (.ref 11),some (.ref 12),some (.ref 13),some (.ref 14),x6,none,none]
structure Good (st : List Ets) (X : List Int) (its : List (AO × Nat)) : Prop where
 pos : ∀ p ∈ st,p.1 < 4 ∧ (p.1 : Int) ∈ X ∧ ∃ k,its[p.2.1]? = some (.iter (2 + 2 * p.1) p.2.2,k)
 nd : st.Pairwise fun a b => b.1 < a.1
 jd : st.Pairwise fun a b => b.2.1 < a.2.1
 xn : X.Nodup
 x4 : In4 X
theorem st_len : ∀ {st : List Ets} {m : Nat},(∀ p ∈ st,p.1 < m) → st.Pairwise (fun a b => b.1 < a.1) → st.length ≤ m
 | [],_,_,_ => Nat.zero_le _
 | t :: r,m,h,hp => by
  rw [List.pairwise_cons] at hp
  have := st_len (m := t.1) hp.1 hp.2
  have := h t (.head _)
  rw [List.length_cons]; exact Nat.lt_of_le_of_lt ‹_› ‹_›
theorem Good.len {st : List Ets} {X : List Int} {its : List (AO × Nat)} (g : Good st X its) : st.length ≤ 4 := st_len (fun p hp => (g.pos p hp).1) g.nd
noncomputable def fh2 : St → Option (AF × St) := fSeq (fun σ => fName 5 σ >>= fun q => fM0 (fName 2) isL popV q.2 >>= fun t => (delI q.1 t.1 t.2).map fun σ' => (AF.next,σ')) (fSeq (fun σ => fM0 (fName 3) isL popV σ >>= fun p => some (AF.next,p.2)) fun σ => some (AF.next,σ))
noncomputable def ft2 : St → Option (Bool × St) := fun σ => fName 2 σ >>= fun p => (truthV p.1 p.2).map fun b => (b,p.2)
noncomputable def fb2 : St → Option (AF × St) := fSeq (fun σ => (fName 3 σ >>= fun p => (some (AV.int (-1),p.2) : Option (AV × St)) >>= fun q => subV p.1 q.1 q.2) >>= fun p => nextS 6 fh2 p.1 p.2) fun σ => some (AF.next,σ)
noncomputable def fo2 : St → Option (AF × St) := fSeq (fun σ => some (AF.brk,σ)) fun σ => some (AF.next,σ)
noncomputable def while2 : St → Option (AF × St) := whileS ft2 fb2 fo2 40
noncomputable def muS (S : Nat → List AV) (st : List Ets) : Nat := (st.map fun p => (S p.1).length - p.2.2).sum
noncomputable def muC (S : Nat → List AV) (X : List Int) (n : Nat) : Nat := if X.any (· == (n : Int)) = true then 0 else (S n).length + 1
noncomputable def muX (S : Nat → List AV) (X : List Int) : Nat := muC S X 0 + muC S X 1 + muC S X 2 + muC S X 3
theorem muC_le {X : List Int} {n : Nat} : muC S X n ≤ (S n).length + 1 := by unfold muC; split <;> omega
theorem muX_push {X : List Int} {m : Nat} (hm : m < 4) (h : (m : Int) ∉ X) : muX S ((m : Int) :: X) + ((S m).length + 1) = muX S X := by
 have h0 : muC S X m = (S m).length + 1 := by
  unfold muC
  rw [if_neg]
  intro q
  exact h (any_eq_mem.mp q)
 have h1 : muC S ((m : Int) :: X) m = 0 := by
  unfold muC
  rw [if_pos (any_eq_mem.mpr (.head _))]
 have h2 : ∀ n : Nat,n ≠ m → muC S ((m : Int) :: X) n = muC S X n := fun n hn => by
  unfold muC
  rw [List.any_cons,show ((m : Int) == (n : Int)) = false by simp; lia,Bool.false_or]
 unfold muX
 obtain rfl | rfl | rfl | rfl := four (w := m) (by assumption)
 ·rw [h2 1 (by decide),h2 2 (by decide),h2 3 (by decide)]; lia
 ·rw [h2 0 (by decide),h2 2 (by decide),h2 3 (by decide)]; lia
 ·rw [h2 0 (by decide),h2 1 (by decide),h2 3 (by decide)]; lia
 ·rw [h2 0 (by decide),h2 1 (by decide),h2 2 (by decide)]; simp_all
theorem next_none {n j p k : Nat} (hn : n < 4) {st : List Ets} {X : List Int} {its : List (AO × Nat)} {w : Nat → Nat} {x6 : Option AV} {fh : St → Option (AF × St)} (hi : its[j]? = some (.iter (2 + 2 * n) p,k)) (hs : (S n)[p]? = none) :
  nextS 6 fh (.nxt (j + 15)) ⟨ZE x6,ZH v rd po nf S q R st X its w⟩ = fh ⟨ZE x6,ZH v rd po nf S q R st X (its.set j (.dead,k + 1)) w⟩ := by
 have h1 : (⟨ZE x6,ZH v rd po nf S q R st X its w⟩ : St).heap[j + 15]? = some (.iter (2 + 2 * n) p,k) := hi
 unfold nextS
 simp only [h1]
 obtain rfl | rfl | rfl | rfl := four (w := n) (by assumption)
 all_goals
  show (match (S _)[p]? with | some y => _ | none => _) = _
  rw [hs]; rfl
theorem next_some {n j p k : Nat} (hn : n < 4) {st : List Ets} {X : List Int} {its : List (AO × Nat)} {w : Nat → Nat} {x6 : Option AV} {y : AV} {fh : St → Option (AF × St)} (hi : its[j]? = some (.iter (2 + 2 * n) p,k)) (hs : (S n)[p]? = some y) :
  nextS 6 fh (.nxt (j + 15)) ⟨ZE x6,ZH v rd po nf S q R st X its w⟩ = some (.brk,⟨ZE (some y),ZH v rd po nf S q R st X (its.set j (.iter (2 + 2 * n) (p + 1),k + 1)) w⟩) := by
 have h1 : (⟨ZE x6,ZH v rd po nf S q R st X its w⟩ : St).heap[j + 15]? = some (.iter (2 + 2 * n) p,k) := hi
 unfold nextS
 simp only [h1]
 obtain rfl | rfl | rfl | rfl := four (w := n) (by assumption)
 all_goals
  show (match (S _)[p]? with | some y => _ | none => _) = _
  rw [hs]; rfl
theorem pops {t : Ets} {r : List Ets} (hr : r.length ≤ 4) (hn : ∀ p ∈ r,p.1 < t.1) {X : List Int} {its : List (AO × Nat)} {w : Nat → Nat} {x6 : Option AV} :
  fh2 ⟨ZE x6,ZH v rd po nf S q R (t :: r) X its w⟩ = some (.next,⟨ZE x6,ZH v rd po nf S q R r X its (up (up (up w 0 (w 0 + 1)) 1 (w 1 + 1)) 3 (w 3 + 1))⟩) := by
 have h1 := nodesA_len r
 have h2 := nxtA_len r
 have h3 := dictP_len r
 unfold fh2
 refine sq (bo rfl (bo (m0 rfl rfl (pop_eq (xs := nodesA r) (x := .int (t.1 : Int)) rfl (by lia))) (mo (del_eq (c := dictP r) (i := (r.length : Int)) rfl (by lia) fun e he => ?_)))) (sq (bo (m0 rfl rfl (pop_eq (xs := nxtA r) (x := .nxt (t.2.1 + 15)) rfl (by lia))) rfl) rfl)
 obtain ⟨p,hp,e1⟩ := dictP_mem he
 have := hn p hp
 lia
theorem truth2 {st : List Ets} (hl : st.length ≤ 4) {X : List Int} {its : List (AO × Nat)} {w : Nat → Nat} {x6 : Option AV} : ft2 ⟨ZE x6,ZH v rd po nf S q R st X its w⟩ = some (!(nodesA st).isEmpty,⟨ZE x6,ZH v rd po nf S q R st X its w⟩) := by
 have h1 := nodesA_len st
 unfold ft2
 refine bo rfl (mo ?_)
 show (if (nodesA st).length < 1000 then some (!(nodesA st).isEmpty) else none) = _
 rw [if_pos (by omega)]
theorem inner : ∀ (st : List Ets) (X : List Int) (its : List (AO × Nat)) (w : Nat → Nat) (x6 : Option AV) (k : Nat),Good st X its → st.length < k →
  ∃ a st' its' w' x6',whileS ft2 fb2 fo2 k ⟨ZE x6,ZH v rd po nf S q R st X its w⟩ = some (a,⟨ZE x6',ZH v rd po nf S q R st' X its' w'⟩) ∧ Good st' X its' ∧
   ((a = .brk ∧ st' = []) ∨ (a = .next ∧ muS S st' + 1 ≤ muS S st ∧ ∃ (n p : Nat) (y : AV),x6' = some y ∧ n < 4 ∧ (S n)[p]? = some y ∧ ∀ e ∈ st',e.1 ≤ n))
 | [],X,its,w,x6,k + 1,g,_ => ⟨.brk,[],its,w,x6,by
   show (ft2 _ >>= _) = _
   rw [truth2 (by decide)]
   rfl,g,.inl ⟨rfl,rfl⟩⟩
 | t :: r,X,its,w,x6,k + 1,g,hk => by
  obtain ⟨n,j,p⟩ := t
  have hl := g.len
  have hlr : r.length ≤ 4 := by rw [List.length_cons] at hl; exact Nat.le_of_lt ‹_›
  obtain ⟨hn,hX,c,hi⟩ := g.pos _ (.head _)
  have hn : n < 4 := hn
  have hi : its[j]? = some (.iter (2 + 2 * n) p,c) := hi
  have gd := List.pairwise_cons.mp g.nd
  have gj := List.pairwise_cons.mp g.jd
  have hne : (!(nodesA ((n,j,p) :: r)).isEmpty) = true := by
   have := nodesA_len ((n,j,p) :: r)
   rw [List.length_cons] at this
   cases h : nodesA ((n,j,p) :: r) with
   | nil => rw [h] at this; cases this
   | cons => rfl
  have hlast : (fName 3 (⟨ZE x6,ZH v rd po nf S q R ((n,j,p) :: r) X its w⟩ : St) >>= fun p => (some (AV.int (-1),p.2) : Option (AV × St)) >>= fun q => subV p.1 q.1 q.2) = some (.nxt (j + 15),⟨ZE x6,ZH v rd po nf S q R ((n,j,p) :: r) X its w⟩) :=
   bo rfl (bo rfl (last_eq (xs := nxtA r) (x := .nxt (j + 15)) rfl (by rw [nxtA_len]; lia)))
  have hset : ∀ (ao : AO) (k : Nat),∀ e ∈ r,(its.set j (ao,k))[e.2.1]? = its[e.2.1]? := fun ao k e he => by
   have := gj.1 e he
   rw [List.getElem?_set,if_neg (by show ¬ j = e.2.1; have : e.2.1 < j := this; exact Nat.ne_of_gt ‹_›)]
  cases hs : (S n)[p]? with
  | some y =>
   refine ⟨.next,(n,j,p + 1) :: r,its.set j (.iter (2 + 2 * n) (p + 1),c + 1),w,some y,?_,⟨?_,?_,?_,g.xn,g.x4⟩,.inr ⟨rfl,?_,n,p,y,rfl,hn,hs,?_⟩⟩
   ·show (ft2 _ >>= _) = _
    rw [truth2 hl,hne]
    show (fb2 _ >>= _) = _
    have : fb2 (⟨ZE x6,ZH v rd po nf S q R ((n,j,p) :: r) X its w⟩ : St) = some (.brk,⟨ZE (some y),ZH v rd po nf S q R ((n,j,p + 1) :: r) X (its.set j (.iter (2 + 2 * n) (p + 1),c + 1)) w⟩) := by
     exact sqB (bo hlast (next_some hn hi hs))
    rw [this]; rfl
   ·intro e he
    rcases List.mem_cons.mp he with rfl | he
    ·refine ⟨hn,hX,c + 1,?_⟩
     show (its.set j _)[j]? = _
     rw [List.getElem?_set,if_pos rfl,if_pos (List.getElem?_eq_some_iff.mp hi).1]
    ·obtain ⟨a,b,k',d⟩ := g.pos e (.tail _ he)
     exact ⟨a,b,k',by rw [hset _ _ e he]; exact d⟩
   ·exact List.pairwise_cons.mpr gd
   ·exact List.pairwise_cons.mpr gj
   ·unfold muS
    rw [List.map_cons,List.map_cons,List.sum_cons,List.sum_cons]
    have := (List.getElem?_eq_some_iff.mp hs).1
    show (S n).length - (p + 1) + _ + 1 ≤ (S n).length - p + _
    grind
   ·intro e he
    rcases List.mem_cons.mp he with rfl | he
    ·exact Nat.le_refl _
    ·exact Nat.le_of_lt (gd.1 e he)
  | none =>
   have g' : Good r X (its.set j (.dead,c + 1)) := ⟨fun e he => by
    obtain ⟨a,b,k',d⟩ := g.pos e (.tail _ he)
    exact ⟨a,b,k',by rw [hset _ _ e he]; exact d⟩,gd.2,gj.2,g.xn,g.x4⟩
   obtain ⟨a,st',its',w',x6',h1,h2,h3⟩ := inner r X (its.set j (.dead,c + 1)) (up (up (up w 0 (w 0 + 1)) 1 (w 1 + 1)) 3 (w 3 + 1)) x6 k g' (by rw [List.length_cons] at hk; exact Nat.le_of_lt_succ ‹_›)
   refine ⟨a,st',its',w',x6',?_,h2,?_⟩
   ·show (ft2 _ >>= _) = _
    rw [truth2 hl,hne]
    show (fb2 _ >>= _) = _
    have : fb2 (⟨ZE x6,ZH v rd po nf S q R ((n,j,p) :: r) X its w⟩ : St) = some (.next,⟨ZE x6,ZH v rd po nf S q R r X (its.set j (.dead,c + 1)) (up (up (up w 0 (w 0 + 1)) 1 (w 1 + 1)) 3 (w 3 + 1))⟩) := by
     exact sq (bo hlast ((next_none hn hi hs).trans (pops (t := (n,j,p)) hlr gd.1))) rfl
    rw [this]
    exact h1
   ·rcases h3 with h3 | ⟨e1,e2,e3⟩
    ·exact .inl h3
    ·refine .inr ⟨e1,?_,e3⟩
     have : muS S ((n,j,p) :: r) = ((S n).length - p) + muS S r := rfl
     simp_all
noncomputable def bIn (k : Nat) (σ : St) : Option (Bool × St) := fName 6 σ >>= fun p => fName k p.2 >>= fun q => (cmpV .In p.1 q.1 q.2).map fun b => (b,q.2)
noncomputable def bOld : St → Option (AF × St) := fSeq (fun σ => bIn 5 σ >>= fun p => if p.1 = true then none else some (AF.next,p.2)) fun σ => some (AF.next,σ)
noncomputable def bNew : St → Option (AF × St) := fSeq (fun σ => fM1 (fName 4) (fName 6) isS addV σ >>= fun p => some (AF.next,p.2))
 (fSeq (fun σ => fM1 (fName 3) (fun σ => fB1 (fun σ => (fName 1 σ >>= fun p => fName 6 p.2 >>= fun q => subV p.1 q.1 q.2) >>= fun p => getF Fld.succ p.1 p.2) iterV σ >>= fun p => nextV p.1 p.2) isL appendV σ >>= fun p => some (AF.next,p.2))
 (fSeq (fun σ => fB1 (fName 2) lenV σ >>= fun p => fName 5 p.2 >>= fun q => fName 6 q.2 >>= fun t => (setI q.1 t.1 p.1 t.2).map fun σ' => (AF.next,σ'))
 (fSeq (fun σ => fM1 (fName 2) (fName 6) isL appendV σ >>= fun p => some (AF.next,p.2)) fun σ => some (AF.next,σ))))
noncomputable def bA : St → Option (AF × St) := fun σ => bIn 4 σ >>= fun p => if p.1 = true then bOld p.2 else bNew p.2
theorem any_x4 {X : List Int} (xn : X.Nodup) (x4 : In4 X) : X.length ≤ 4 := nodup4_length xn x4
theorem in_seen {st : List Ets} {X : List Int} {its : List (AO × Nat)} {w : Nat → Nat} {m : Nat} (hl : X.length ≤ 4) : bIn 4 ⟨ZE (some (.int (m : Int))),ZH v rd po nf S q R st X its w⟩ = some (X.any (· == (m : Int)),⟨ZE (some (.int (m : Int))),ZH v rd po nf S q R st X its w⟩) := by
 unfold bIn
 refine bo rfl (bo rfl (mo ?_))
 show (if X.length < 1000 then some (X.any (· == (m : Int))) else none) = _
 rw [if_pos (by omega)]
theorem look_none {c : List (Int × AV)} {m : Int} (h : ∀ e ∈ c,e.1 ≠ m) : c.lookup m = none := by
 induction c with
 | nil => rfl
 | cons a r ih =>
  obtain ⟨x,y⟩ := a
  rw [List.lookup_cons,show (m == x) = false by have := h _ (.head _); simp; exact fun q => this q.symm]
  exact ih fun e he => h e (.tail _ he)
theorem dict_ne {st : List Ets} {m : Nat} (h : ∀ e ∈ st,e.1 < m) : ∀ e ∈ ofPairs (dictP st),e.1 ≠ (m : Int) := by
 intro e he
 obtain ⟨c,hc,rfl⟩ := List.mem_map.mp he
 obtain ⟨p,hp,e1⟩ := dictP_mem hc
 have := h p hp
 show c.1 ≠ _
 lia
theorem old_ok {st : List Ets} {X : List Int} {its : List (AO × Nat)} {w : Nat → Nat} {m : Nat} (h : ∀ e ∈ st,e.1 < m) : bOld ⟨ZE (some (.int (m : Int))),ZH v rd po nf S q R st X its w⟩ = some (.next,⟨ZE (some (.int (m : Int))),ZH v rd po nf S q R st X its w⟩) := by
 unfold bOld
 refine sq (bo (a := (false,⟨ZE (some (.int (m : Int))),ZH v rd po nf S q R st X its w⟩)) ?_ rfl) rfl
 unfold bIn
 refine bo rfl (bo rfl (mo ?_))
 show some ((ofPairs (dictP st)).lookup (m : Int)).isSome = _
 rw [look_none (dict_ne h)]; rfl
theorem put_new {c : List (Int × AV)} {m : Int} {x : AV} (h : ∀ e ∈ c,e.1 ≠ m) : putA c m x = c ++ [(m,x)] := by
 unfold putA
 rw [if_neg]
 intro q
 obtain ⟨e,he,h2⟩ := List.any_eq_true.mp q
 exact h e he (by simpa using h2)
theorem new_ok {st : List Ets} {X : List Int} {its : List (AO × Nat)} {w : Nat → Nat} {m : Nat} (hm : m < 4) (hX : X.length ≤ 4) (hs : st.length ≤ 4) (h : ∀ e ∈ st,e.1 < m) :
  ∃ w',bNew ⟨ZE (some (.int (m : Int))),ZH v rd po nf S q R st X its w⟩ = some (.next,⟨ZE (some (.int (m : Int))),ZH v rd po nf S q R ((m,its.length,0) :: st) ((m : Int) :: X) (its ++ [(.iter (2 + 2 * m) 0,0)]) w'⟩) := by
 have h1 := nodesA_len st
 have h2 := nxtA_len st
 have h3 := dictP_len st
 refine ⟨up (up (up (up w 2 (w 2 + 1)) 1 (w 1 + 1)) 3 (w 3 + 1)) 0 (w 0 + 1),?_⟩
 unfold bNew
 have k1 : fM1 (fName 4) (fName 6) isS addV ⟨ZE (some (.int (m : Int))),ZH v rd po nf S q R st X its w⟩ = some (.none,⟨ZE (some (.int (m : Int))),ZH v rd po nf S q R st ((m : Int) :: X) its (up w 2 (w 2 + 1))⟩) := by
  refine m1 rfl ?_ rfl ?_
  ·show decide (X.length < 1000) = true
   exact decide_eq_true (by lia)
  ·show (if X.length < 1000 then _ else none) = _
   rw [if_pos (by omega)]; rfl
 have k2 : (fB1 (fun σ => (fName 1 σ >>= fun p => fName 6 p.2 >>= fun q => subV p.1 q.1 q.2) >>= fun p => getF Fld.succ p.1 p.2) iterV ⟨ZE (some (.int (m : Int))),ZH v rd po nf S q R st ((m : Int) :: X) its (up w 2 (w 2 + 1))⟩ >>= fun p => nextV p.1 p.2) =
   some (.nxt (its.length + 15),⟨ZE (some (.int (m : Int))),FR v rd po nf S q (R :: (.list (nodesA st),w 0) :: (.list (nxtA st),w 1) :: (.set ((m : Int) :: X),w 2 + 1) :: (.dict (ofPairs (dictP st)),w 3) :: (its ++ [(.iter (2 + 2 * m) 0,0)]))⟩) := by
  refine bo (a := (.ref (its.length + 15),⟨ZE (some (.int (m : Int))),FR v rd po nf S q (R :: (.list (nodesA st),w 0) :: (.list (nxtA st),w 1) :: (.set ((m : Int) :: X),w 2 + 1) :: (.dict (ofPairs (dictP st)),w 3) :: (its ++ [(.iter (2 + 2 * m) 0,0)]))⟩)) (bo (a := (.ref (2 + 2 * m),⟨ZE (some (.int (m : Int))),ZH v rd po nf S q R st ((m : Int) :: X) its (up w 2 (w 2 + 1))⟩)) (bo (a := (.ref (3 + 2 * m),⟨ZE (some (.int (m : Int))),ZH v rd po nf S q R st ((m : Int) :: X) its (up w 2 (w 2 + 1))⟩)) (bo rfl (bo rfl ?_)) ?_) ?_) ?_
  ·obtain rfl | rfl | rfl | rfl := four (w := m) (by assumption)
   all_goals rfl
  ·obtain rfl | rfl | rfl | rfl := four (w := m) (by assumption)
   all_goals rfl
  ·obtain rfl | rfl | rfl | rfl := four (w := m) (by assumption)
   all_goals rfl
  ·show (match (its ++ [(AO.iter (2 + 2 * m) 0,0)])[its.length]? with | some (.iter _ _,_) => _ | _ => none) = _
   rw [List.getElem?_append_right (Nat.le_refl _),Nat.sub_self]; rfl
 have k3 : setI (.ref 14) (.int (m : Int)) (.int (st.length : Int)) ⟨ZE (some (.int (m : Int))),FR v rd po nf S q (R :: (.list (nodesA st),w 0) :: (.list (nxtA st ++ [.nxt (its.length + 15)]),w 1 + 1) :: (.set ((m : Int) :: X),w 2 + 1) :: (.dict (ofPairs (dictP st)),w 3) :: (its ++ [(.iter (2 + 2 * m) 0,0)]))⟩ =
   some ⟨ZE (some (.int (m : Int))),FR v rd po nf S q (R :: (.list (nodesA st),w 0) :: (.list (nxtA st ++ [.nxt (its.length + 15)]),w 1 + 1) :: (.set ((m : Int) :: X),w 2 + 1) :: (.dict (ofPairs (dictP st ++ [((m : Int),(st.length : Int))])),w 3 + 1) :: (its ++ [(.iter (2 + 2 * m) 0,0)]))⟩ := by
  show (if (ofPairs (dictP st)).length < 1000 then some (turn _ 14 (.dict (putA (ofPairs (dictP st)) (m : Int) (.int (st.length : Int)))) (w 3)) else none) = _
  rw [if_pos (by unfold ofPairs; rw [List.length_map]; lia),put_new (dict_ne h),ofPairs_app]
  rfl
 have k4 : fB1 (fName 2) lenV ⟨ZE (some (.int (m : Int))),FR v rd po nf S q (R :: (.list (nodesA st),w 0) :: (.list (nxtA st ++ [.nxt (its.length + 15)]),w 1 + 1) :: (.set ((m : Int) :: X),w 2 + 1) :: (.dict (ofPairs (dictP st)),w 3) :: (its ++ [(.iter (2 + 2 * m) 0,0)]))⟩ = some (.int (st.length : Int),⟨ZE (some (.int (m : Int))),FR v rd po nf S q (R :: (.list (nodesA st),w 0) :: (.list (nxtA st ++ [.nxt (its.length + 15)]),w 1 + 1) :: (.set ((m : Int) :: X),w 2 + 1) :: (.dict (ofPairs (dictP st)),w 3) :: (its ++ [(.iter (2 + 2 * m) 0,0)]))⟩) := by
  refine bo rfl ?_
  show (if (nodesA st).length < 1000 then some (AV.int (nodesA st).length,_) else none) = _
  rw [if_pos (by lia),h1]
 refine sq (bo k1 rfl) (sq (bo (m1 rfl rfl k2 (apE (xs := nxtA st) rfl (by lia))) rfl) (sq (bo k4 (bo rfl (bo rfl (mo k3)))) (sq (bo (m1 rfl rfl rfl (apE (xs := nodesA st) rfl (by omega))) rfl) rfl)))
noncomputable def ft1 : St → Option (Bool × St) := fun σ => (some (AV.bool true,σ) : Option (AV × St)) >>= fun p => (truthV p.1 p.2).map fun b => (b,p.2)
noncomputable def fb1 : St → Option (AF × St) := fSeq bA (fSeq while2 fun σ => some (AF.next,σ))
theorem outer (hS : ∀ n,n < 4 → ∀ y ∈ S n,∃ m : Nat,y = .int (m : Int) ∧ n < m ∧ m < 4) : ∀ (k : Nat) (st : List Ets) (X : List Int) (its : List (AO × Nat)) (w : Nat → Nat) (m : Nat),Good st X its → m < 4 → (∀ e ∈ st,e.1 < m) → muS S st + muX S X < k →
  ∃ X' its' w' x6',whileS ft1 fb1 (fun σ => some (AF.next,σ)) k ⟨ZE (some (.int (m : Int))),ZH v rd po nf S q R st X its w⟩ = some (.next,⟨ZE x6',ZH v rd po nf S q R [] X' its' w'⟩) ∧ Good [] X' its'
 | k + 1,st,X,its,w,m,g,hm,hst,hk => by
  -- what the body's first statement does
  have hA : ∃ st1 X1 its1 w1,bA ⟨ZE (some (.int (m : Int))),ZH v rd po nf S q R st X its w⟩ = some (.next,⟨ZE (some (.int (m : Int))),ZH v rd po nf S q R st1 X1 its1 w1⟩) ∧ Good st1 X1 its1 ∧ muS S st1 + muX S X1 ≤ muS S st + muX S X := by
   have hX := any_x4 g.xn g.x4
   by_cases hin : X.any (· == (m : Int)) = true
   ·refine ⟨st,X,its,w,?_,g,Nat.le_refl _⟩
    unfold bA
    refine bo (in_seen hX) ?_
    show (if X.any (· == (m : Int)) = true then _ else _) = _
    rw [if_pos hin]
    exact old_ok hst
   ·obtain ⟨w',hw⟩ := new_ok (v := v) (rd := rd) (po := po) (nf := nf) (S := S) (q := q) (R := R) (its := its) (w := w) hm hX g.len hst
    have hmX : (m : Int) ∉ X := fun q => hin (any_eq_mem.mpr q)
    refine ⟨(m,its.length,0) :: st,(m : Int) :: X,its ++ [(.iter (2 + 2 * m) 0,0)],w',?_,⟨?_,?_,?_,List.nodup_cons.mpr ⟨hmX,g.xn⟩,?_⟩,?_⟩
    ·unfold bA
     refine bo (in_seen hX) ?_
     show (if X.any (· == (m : Int)) = true then _ else _) = _
     rw [if_neg hin]
     exact hw
    ·intro e he
     rcases List.mem_cons.mp he with rfl | he
     ·exact ⟨hm,.head _,0,by show (its ++ _)[its.length]? = _; rw [List.getElem?_append_right (Nat.le_refl _),Nat.sub_self]; rfl⟩
     ·obtain ⟨a,b,c,d⟩ := g.pos e he
      exact ⟨a,.tail _ b,c,by rw [List.getElem?_append_left (List.getElem?_eq_some_iff.mp d).1]; exact d⟩
    ·exact List.pairwise_cons.mpr ⟨hst,g.nd⟩
    ·refine List.pairwise_cons.mpr ⟨fun e he => ?_,g.jd⟩
     obtain ⟨_,_,c,d⟩ := g.pos e he
     exact (List.getElem?_eq_some_iff.mp d).1
    ·intro x hx
     rcases List.mem_cons.mp hx with rfl | hx
     ·omega
     ·exact g.x4 x hx
    ·have h1 := muX_push (S := S) hm hmX
     have h2 : muS S ((m,its.length,0) :: st) = ((S m).length - 0) + muS S st := rfl
     lia
  obtain ⟨st1,X1,its1,w1,e1,g1,m1'⟩ := hA
  obtain ⟨a,st2,its2,w2,x6,e2,g2,h2⟩ := inner (v := v) (rd := rd) (po := po) (nf := nf) (S := S) (q := q) (R := R) st1 X1 its1 w1 (some (.int (m : Int))) 40 g1 (by have := g1.len; lia)
  rcases h2 with ⟨rfl,rfl⟩ | ⟨rfl,hmu,n,p,y,rfl,hn,hy,hle⟩
  ·refine ⟨X1,its2,w2,x6,?_,g2⟩
   show (fb1 _ >>= _) = _
   have : fb1 (⟨ZE (some (.int (m : Int))),ZH v rd po nf S q R st X its w⟩ : St) = some (.brk,⟨ZE x6,ZH v rd po nf S q R [] X1 its2 w2⟩) := sq e1 (sqB e2)
   rw [this]; rfl
  ·obtain ⟨m',rfl,h3,h4⟩ := hS n hn y (List.mem_of_getElem? hy)
   obtain ⟨X',its',w',x6',e3,g3⟩ := outer hS k st2 X1 its2 w2 m' g2 h4 (fun e he => Nat.lt_of_le_of_lt (hle e he) h3) (by lia)
   refine ⟨X',its',w',x6',?_,g3⟩
   show (fb1 _ >>= _) = _
   have : fb1 (⟨ZE (some (.int (m : Int))),ZH v rd po nf S q R st X its w⟩ : St) = some (.next,⟨ZE (some (.int (m' : Int))),ZH v rd po nf S q R st2 X1 its2 w2⟩) := sq e1 (sq e2 rfl)
   rw [this]
   exact e3
noncomputable def bFor : St → Option (AF × St) := fSeq (fun σ => bIn 4 σ >>= fun p => if p.1 = true then fSeq (fun σ => some (AF.cont,σ)) (fun σ => some (AF.next,σ)) p.2 else some (AF.next,p.2)) (fSeq (whileS ft1 fb1 (fun σ => some (AF.next,σ)) 40) fun σ => some (AF.next,σ))
theorem muX_le {X : List Int} (h : (S 0).length + (S 1).length + (S 2).length + (S 3).length ≤ 30) : muX S X ≤ 34 := by
 have h0 := muC_le (S := S) (X := X) (n := 0)
 have h1 := muC_le (S := S) (X := X) (n := 1)
 have h2 := muC_le (S := S) (X := X) (n := 2)
 have h3 := muC_le (S := S) (X := X) (n := 3)
 unfold muX; lia
theorem turnFor (hS : ∀ n,n < 4 → ∀ y ∈ S n,∃ m : Nat,y = .int (m : Int) ∧ n < m ∧ m < 4) (hL : (S 0).length + (S 1).length + (S 2).length + (S 3).length ≤ 30) {X : List Int} {its : List (AO × Nat)} {w : Nat → Nat} {m : Nat} (g : Good [] X its) (hm : m < 4) :
  ∃ X' its' w' x6',(bFor ⟨ZE (some (.int (m : Int))),ZH v rd po nf S q R [] X its w⟩ = some (.next,⟨ZE x6',ZH v rd po nf S q R [] X' its' w'⟩) ∨ bFor ⟨ZE (some (.int (m : Int))),ZH v rd po nf S q R [] X its w⟩ = some (.cont,⟨ZE x6',ZH v rd po nf S q R [] X' its' w'⟩)) ∧ Good [] X' its' := by
 have hX := any_x4 g.xn g.x4
 by_cases hin : X.any (· == (m : Int)) = true
 ·refine ⟨X,its,w,some (.int (m : Int)),.inr ?_,g⟩
  unfold bFor fSeq
  show ((bIn 4 _ >>= _) >>= _) = _
  rw [in_seen hX]
  show ((if X.any (· == (m : Int)) = true then _ else _) >>= _) = _
  rw [if_pos hin]; rfl
 ·obtain ⟨X',its',w',x6',h1,g1⟩ := outer (v := v) (rd := rd) (po := po) (nf := nf) (S := S) (q := q) (R := R) hS 40 [] X its w m g hm (fun e he => nomatch he) (by have := muX_le (X := X) hL; show 0 + _ < _; lia)
  refine ⟨X',its',w',x6',.inl ?_,g1⟩
  unfold bFor
  refine sq (bo (in_seen hX) ?_) (sq h1 rfl)
  show (if X.any (· == (m : Int)) = true then _ else _) = _
  rw [if_neg hin]
theorem cycle_eq (hS : ∀ n,n < 4 → ∀ y ∈ S n,∃ m : Nat,y = .int (m : Int) ∧ n < m ∧ m < 4) (hL : (S 0).length + (S 1).length + (S 2).length + (S 3).length ≤ 30) {env : List (Option AV)} :
  ∃ T,w175.1 [.ref 1] ⟨env,FR v rd po nf S q [R]⟩ = some (.none,⟨env,FR v rd po nf S q (R :: T)⟩) := by
 obtain ⟨σ',h1,X,its,w,x6,hg,rfl⟩ := forS_inv (ta := fun v σ => some (setE 6 v σ)) (fb := bFor) (chk := verAt 0 (v 0)) (fun _ σ => ∃ X its w x6,Good [] X its ∧ σ = ⟨ZE x6,ZH v rd po nf S q R [] X its w⟩) [.int 0,.int 1,.int 2,.int 3] 0 ⟨ZE none,ZH v rd po nf S q R [] [] [] (fun _ => 0)⟩
  ⟨[],[],fun _ => 0,none,⟨fun _ h => (nomatch h),.nil,.nil,.nil,fun _ h => (nomatch h)⟩,rfl⟩ fun j x σ hx hI => by
   obtain ⟨X,its,w,x6,g,rfl⟩ := hI
   obtain ⟨m,hm,rfl⟩ : ∃ m : Nat,m < 4 ∧ x = .int (m : Int) := by
    have := List.mem_of_getElem? hx
    simp only [List.mem_cons,List.not_mem_nil,or_false] at this
    rcases this with rfl | rfl | rfl | rfl
    ·exact ⟨0,by decide,rfl⟩
    ·exact ⟨1,by decide,rfl⟩
    ·exact ⟨2,by decide,rfl⟩
    ·exact ⟨3,by decide,rfl⟩
   obtain ⟨X',its',w',x6',h1,g1⟩ := turnFor (v := v) (rd := rd) (po := po) (nf := nf) (S := S) (q := q) (R := R) hS hL (w := w) g hm
   refine ⟨⟨ZE (some (.int (m : Int))),ZH v rd po nf S q R [] X its w⟩,⟨ZE x6',ZH v rd po nf S q R [] X' its' w'⟩,rfl,h1,?_,X',its',w',x6',g1,rfl⟩
   show (v 0 == v 0) = true
   simp
 refine ⟨_,bo (a := (.ret .none,⟨ZE x6,ZH v rd po nf S q R [] X its w⟩)) (sq rfl (sq rfl (sq rfl (sq rfl (sq rfl (sq (f := fFor _ _ _) (bo rfl (bo rfl h1)) (sqR rfl))))))) rfl⟩
end
section
variable {v : Nat → Nat} {rd : AV} {po nf : Int} {S : Nat → List AV} {q : Nat → Int} {u : Nat} {T : List (AO × Nat)}
theorem comp_cons {ta : AV → St → Option St} {fi : St → Option (Bool × St)} {fe : St → Option (AV × St)} {acc : List AV} {x y : AV} {xs : List AV} {σ σ1 σ2 σ3 : St} {b : Bool} {r : Option (List AV × St)} (h1 : ta x σ = some σ1) (h2 : fi σ1 = some (b,σ2)) (h3 : fe σ2 = some (y,σ3)) (h4 : b = true → compS ta fi fe (acc ++ [y]) xs σ3 = r) (h5 : b = false → compS ta fi fe acc xs σ2 = r) : compS ta fi fe acc (x :: xs) σ = r := by
 show (ta x σ >>= _) = _
 rw [h1]
 show (fi σ1 >>= _) = _
 rw [h2]
 show (if b = true then _ else _) = _
 cases b with
 | true => rw [if_pos rfl,h3]; exact h4 rfl
 | false => rw [if_neg (by decide)]; exact h5 rfl
noncomputable def zerosA (q : Nat → Int) : List Int := ([((0 : Int),q 0),((1 : Int),q 1),((2 : Int),q 2),((3 : Int),q 3)].filter fun p => p.2 == 0).map (·.1)
noncomputable def cSrc : St → Option (List AV × St) := fun σ => (fName 0 σ >>= fun p => getF Fld.n2i p.1 p.2) >>= fun p => valsV p.1 p.2 >>= fun xs => some (xs,p.2)
noncomputable def cIf : St → Option (Bool × St) := fun σ => (fName 1 σ >>= fun p => getF Fld.np p.1 p.2) >>= fun p => (some (AV.int 0,p.2) : Option (AV × St)) >>= fun q => (cmpV CmpOp.Eq p.1 q.1 q.2).map fun b => (b,q.2)
noncomputable def cEl : St → Option (AV × St) := fun σ => fName 1 σ >>= fun p => getF Fld.node p.1 p.2
theorem comp140 {H : List (AO × Nat)} (hH : H = FR v .none 0 0 S q []) :
  compS (fun v σ => some (setE 1 v σ)) cIf cEl [] [.ref 3,.ref 5,.ref 7,.ref 9] ⟨[none,none],H⟩ = some ((zerosA q).map .int,⟨[none,some (.ref 9)],H⟩) := by
 subst hH
 unfold zerosA
 refine comp_cons (σ1 := ⟨[none,some (.ref 3)],_⟩) (y := .int 0) (b := q 0 == 0) rfl rfl rfl (fun e0 => ?_) (fun e0 => ?_)
 all_goals refine comp_cons (σ1 := ⟨[none,some (.ref 5)],_⟩) (y := .int 1) (b := q 1 == 0) rfl rfl rfl (fun e1 => ?_) (fun e1 => ?_)
 all_goals refine comp_cons (σ1 := ⟨[none,some (.ref 7)],_⟩) (y := .int 2) (b := q 2 == 0) rfl rfl rfl (fun e2 => ?_) (fun e2 => ?_)
 all_goals refine comp_cons (σ1 := ⟨[none,some (.ref 9)],_⟩) (y := .int 3) (b := q 3 == 0) rfl rfl rfl (fun e3 => ?_) (fun e3 => ?_)
 all_goals
  simp only [List.filter_cons,List.filter_nil,e0,e1,e2,e3]
  rfl
theorem fcomp140 : fComp [none,none] cSrc (fun v σ => some (setE 1 v σ)) cIf cEl ⟨[some (.ref 1),none],FR v .none 0 0 S q []⟩ = some ((zerosA q).map .int,⟨[some (.ref 1),none],FR v .none 0 0 S q []⟩) := by
 unfold fComp
 rw [if_pos (by rfl)]
 refine bo (a := ([.ref 3,.ref 5,.ref 7,.ref 9],⟨[some (.ref 1),none],FR v .none 0 0 S q []⟩)) rfl ?_
 dsimp only
 rw [if_pos (by decide)]
 exact bo (comp140 rfl) rfl
theorem prep_eq (hS : ∀ n,n < 4 → ∀ y ∈ S n,∃ m : Nat,y = .int (m : Int) ∧ n < m ∧ m < 4) (hL : (S 0).length + (S 1).length + (S 2).length + (S 3).length ≤ 30) {env : List (Option AV)} :
  ∃ T,w140.1 [.ref 1] ⟨env,FR v .none 0 0 S q []⟩ = some (.none,⟨env,FR (up v 1 (v 1 + 1)) (.ref 10) 0 0 S q ((.list ((zerosA q).map .int),0) :: T)⟩) := by
 obtain ⟨T,hT⟩ := cycle_eq (v := up v 1 (v 1 + 1)) (rd := .ref 10) (po := 0) (nf := 0) (S := S) (q := q) (R := (.list ((zerosA q).map .int),0)) hS hL (env := [some (.ref 1),none])
 have k3 : (fSeq (fun σ => fOwnM (fName 0) (fun σ => some ([],σ)) w175.1 σ >>= fun p => some (AF.next,setE 1 p.1 p.2)) (fSeq (fun σ => (fName 1 σ >>= fun p => (truthV p.1 p.2).map fun b => (b,p.2)) >>= fun p => if p.1 = true then none else some (AF.next,p.2)) fun σ => some (AF.next,σ))) ⟨[some (.ref 1),none],FR (up v 1 (v 1 + 1)) (.ref 10) 0 0 S q [(.list ((zerosA q).map .int),0)]⟩ =
   some (.next,⟨[some (.ref 1),some .none],FR (up v 1 (v 1 + 1)) (.ref 10) 0 0 S q ((.list ((zerosA q).map .int),0) :: T)⟩) :=
  sq (bo (ownM rfl rfl rfl hT) rfl) (sq rfl rfl)
 have k2 : ((fComp [none,none] cSrc (fun v σ => some (setE 1 v σ)) cIf cEl ⟨[some (.ref 1),none],FR v .none 0 0 S q []⟩ >>= fun q => some (AV.ref q.2.heap.length,(⟨q.2.env,q.2.heap ++ [(AO.list q.1,0)]⟩ : St))) >>= fun p => fName 0 p.2 >>= fun q => (setF Fld.rdy q.1 p.1 q.2).map fun σ' => (AF.next,σ')) =
   some (AF.next,⟨[some (.ref 1),none],FR (up v 1 (v 1 + 1)) (.ref 10) 0 0 S q [(.list ((zerosA q).map .int),0)]⟩) := by
  rw [fcomp140]
  rfl
 refine ⟨T,?_⟩
 show ((fSeq _ (fSeq _ _) : St → Option (AF × St)) ⟨[some (.ref 1),none],FR v .none 0 0 S q []⟩ >>= _) = _
 exact bo (sq rfl (sq k2 k3)) rfl
theorem fr_q {q q' : Nat → Int} (h : ∀ w,w < 4 → q w = q' w) : FR v rd po nf S q T = FR v rd po nf S q' T := by
 unfold FR; rw [h 0 (by decide),h 1 (by decide),h 2 (by decide),h 3 (by decide)]
noncomputable def b147 : St → Option (AF × St) := fSeq (fun σ => (some (AV.int (-1),σ) : Option (AV × St)) >>= fun p => (fName 2 p.2 >>= fun p => fName 3 p.2 >>= fun q => subV p.1 q.1 q.2) >>= fun q => (setF Fld.np q.1 p.1 q.2).map fun σ' => (AF.next,σ')) fun σ => some (AF.next,σ)
theorem turn147 {w : Nat} (hw : w < 4) {a b : Option AV} : b147 ⟨[a,b,some (.ref 0),some (.int (w : Int))],FR v rd po nf S q T⟩ = some (.next,⟨[a,b,some (.ref 0),some (.int (w : Int))],FR (up v (3 + 2 * w) (v (3 + 2 * w) + 1)) rd po nf S (up q w (-1)) T⟩) := by
 obtain rfl | rfl | rfl | rfl := four (w := w) (by assumption)
 all_goals rfl
noncomputable def outQ (rs : List Int) (q : Nat → Int) (w : Nat) : Int := if rs.any (· == (w : Int)) = true then -1 else q w
theorem loop147 {a b : Option AV} : ∀ (rs : List Int) (v : Nat → Nat) (q : Nat → Int) (x3 : Option AV),In4 rs →
  ∃ v' x3',forS (fun v σ => some (setE 3 v σ)) b147 (fun _ => true) (rs.map .int) ⟨[a,b,some (.ref 0),x3],FR v rd po nf S q T⟩ = some (.next,⟨[a,b,some (.ref 0),x3'],FR v' rd po nf S (outQ rs q) T⟩)
 | [],v,q,x3,_ => ⟨v,x3,rfl⟩
 | x :: rs,v,q,x3,h => by
  obtain ⟨w,rfl⟩ : ∃ w : Nat,x = w := ⟨x.toNat,by have := (h x (.head _)).1; exact ara ‹_›⟩
  have hw : w < 4 := by have := (h _ (.head _)).2; omega
  obtain ⟨v',x3',e⟩ := loop147 (a := a) (b := b) rs (up v (3 + 2 * w) (v (3 + 2 * w) + 1)) (up q w (-1)) (some (.int (w : Int))) fun y hy => h y (.tail _ hy)
  refine ⟨v',x3',fC (σ1 := ⟨[a,b,some (.ref 0),some (.int (w : Int))],_⟩) rfl (turn147 hw) rfl (e.trans ?_)⟩
  rw [fr_q (q' := outQ ((w : Int) :: rs) q)]
  intro j _
  unfold outQ up
  rw [List.any_cons]
  by_cases hj : j = w
  ·subst hj
   simp
  ·rw [show ((w : Int) == (j : Int)) = false by simp; lia,Bool.false_or,if_neg hj]
theorem len_tp {xs : List AV} {σ : St} (h : xs.length < 1000) : lenV (.tp xs) σ = some (.int xs.length,σ) := by
 unfold lenV; dsimp only; rw [if_pos h]
theorem ready_eq {rs : List Int} (h4 : In4 rs) (hl : rs.length ≤ 100) {env : List (Option AV)} : ∃ v',w147.1 [.ref 1] ⟨env,FR v (.ref 10) po nf S q ((.list (rs.map .int),u) :: T)⟩ = some (.tp (rs.map .int),⟨env,FR v' (.ref 10) (po + rs.length) nf S (outQ rs q) ((.list [],u + 1) :: T)⟩) := by
 obtain ⟨v',x3',e⟩ := loop147 (rd := .ref 10) (po := po) (nf := nf) (S := S) (T := (.list (rs.map .int),u) :: T) (a := some (.ref 1)) (b := some (.tp (rs.map .int))) rs v q none h4
 have hm : (rs.map AV.int).length = rs.length := List.length_map ..
 refine ⟨up v' 1 (v' 1 + 1),?_⟩
 have k1 : fB1 (fun σ => fName 0 σ >>= fun p => getF Fld.rdy p.1 p.2) tupV ⟨[some (.ref 1),none,none,none],FR v (.ref 10) po nf S q ((.list (rs.map .int),u) :: T)⟩ = some (.tp (rs.map .int),⟨[some (.ref 1),none,none,none],FR v (.ref 10) po nf S q ((.list (rs.map .int),u) :: T)⟩) := by
  refine bo (a := (.ref 10,_)) rfl ?_
  show (if (rs.map AV.int).length < 1000 then some (AV.tp (rs.map .int),_) else none) = _
  rw [if_pos (by omega)]
 have k2 : fM0 (fun σ => fName 0 σ >>= fun p => getF Fld.rdy p.1 p.2) isL clearV ⟨[some (.ref 1),some (.tp (rs.map .int)),some (.ref 0),x3'],FR v' (.ref 10) po nf S (outQ rs q) ((.list (rs.map .int),u) :: T)⟩ = some (.none,⟨[some (.ref 1),some (.tp (rs.map .int)),some (.ref 0),x3'],FR v' (.ref 10) po nf S (outQ rs q) ((.list [],u + 1) :: T)⟩) := by
  refine m0 (p := (.ref 10,_)) rfl rfl ?_
  show (if (rs.map AV.int).length < 1000 then _ else none) = _
  rw [if_pos (by omega)]; rfl
 have k3 : fB1 (fName 1) lenV ⟨[some (.ref 1),some (.tp (rs.map .int)),some (.ref 0),x3'],FR v' (.ref 10) po nf S (outQ rs q) ((.list [],u + 1) :: T)⟩ = some (.int rs.length,⟨[some (.ref 1),some (.tp (rs.map .int)),some (.ref 0),x3'],FR v' (.ref 10) po nf S (outQ rs q) ((.list [],u + 1) :: T)⟩) := by
  refine bo rfl ((len_tp (by omega)).trans ?_)
  rw [hm]
 exact bo (sq rfl (sq (bo k1 rfl) (sq rfl (sq (f := fFor _ _ _) (bo rfl (bo rfl e)) (sq (bo k2 rfl) (sq (bo rfl (bo rfl (bo k3 (bo rfl (mo rfl))))) (sqR rfl))))))) rfl
theorem ifT {α : Type} {c : Bool} {x y r : α} (h : c = true) (hx : x = r) : (if c = true then x else y) = r := by rw [if_pos h]; exact hx
theorem ifF {α : Type} {c : Bool} {x y r : α} (h : c = false) (hx : y = r) : (if c = true then x else y) = r := by subst h; rw [if_neg (by decide)]; exact hx
noncomputable def b168i : St → Option (AF × St) := fSeq (fun σ => (fName 2 σ >>= fun p => fName 6 p.2 >>= fun q => subV p.1 q.1 q.2) >>= fun p => some (AF.next,setE 7 p.1 p.2))
 (fSeq (fun σ => fName 7 σ >>= fun p => getF Fld.np p.1 p.2 >>= fun q => (some (AV.int 1,q.2) : Option (AV × St)) >>= fun t => inV Operator.Sub q.1 t.1 >>= fun x => (setF Fld.np p.1 x t.2).map fun σ' => (AF.next,σ'))
 (fSeq (fun σ => ((fName 7 σ >>= fun p => getF Fld.np p.1 p.2) >>= fun p => (some (AV.int 0,p.2) : Option (AV × St)) >>= fun q => (cmpV CmpOp.Eq p.1 q.1 q.2).map fun b => (b,q.2)) >>= fun p =>
  if p.1 = true then fSeq (fun σ => fM1 (fun σ => fName 0 σ >>= fun p => getF Fld.rdy p.1 p.2) (fName 6) isL appendV σ >>= fun p => some (AF.next,p.2)) (fun σ => some (AF.next,σ)) p.2 else some (AF.next,p.2))
 fun σ => some (AF.next,σ)))
noncomputable def E168 (a b c d x6 x7 : Option AV) : List (Option AV) := [some (.ref 1),a,some (.ref 0),b,c,d,x6,x7,none,none]
theorem turn168 {w : Nat} (hw : w < 4) {a b c d x7 : Option AV} {R : List AV} (hR : R.length < 1000) : ∃ u',b168i ⟨E168 a b c d (some (.int (w : Int))) x7,FR v (.ref 10) po nf S q ((.list R,u) :: T)⟩ =
  some (.next,⟨E168 a b c d (some (.int (w : Int))) (some (.ref (3 + 2 * w))),FR (up v (3 + 2 * w) (v (3 + 2 * w) + 1)) (.ref 10) po nf S (up q w (q w - 1)) ((.list (if (q w - 1 == 0) = true then R ++ [.int (w : Int)] else R),u') :: T)⟩) := by
 cases h : q w - 1 == 0 with
 | true =>
  refine ⟨u + 1,?_⟩
  rw [if_pos rfl]
  obtain rfl | rfl | rfl | rfl := four (w := w) (by assumption)
  ·refine sq (σ' := ⟨E168 a b c d (some (.int ((0 : Nat) : Int))) (some (.ref (3 + 2 * 0))),FR v (.ref 10) po nf S q ((.list R,u) :: T)⟩) rfl (sq (σ' := ⟨E168 a b c d (some (.int ((0 : Nat) : Int))) (some (.ref (3 + 2 * 0))),FR (up v (3 + 2 * 0) (v (3 + 2 * 0) + 1)) (.ref 10) po nf S (up q 0 (q 0 - 1)) ((.list R,u) :: T)⟩) rfl (sq (bo (a := (true,⟨E168 a b c d (some (.int ((0 : Nat) : Int))) (some (.ref (3 + 2 * 0))),FR (up v (3 + 2 * 0) (v (3 + 2 * 0) + 1)) (.ref 10) po nf S (up q 0 (q 0 - 1)) ((.list R,u) :: T)⟩)) (bo rfl (bo rfl (mo (congrArg some h)))) (ifT rfl (sq (bo (m1 (p := (.ref 10,⟨E168 a b c d (some (.int ((0 : Nat) : Int))) (some (.ref (3 + 2 * 0))),FR (up v (3 + 2 * 0) (v (3 + 2 * 0) + 1)) (.ref 10) po nf S (up q 0 (q 0 - 1)) ((.list R,u) :: T)⟩)) rfl rfl rfl (apE (xs := R) rfl hR)) rfl) rfl))) rfl))
  ·refine sq (σ' := ⟨E168 a b c d (some (.int ((1 : Nat) : Int))) (some (.ref (3 + 2 * 1))),FR v (.ref 10) po nf S q ((.list R,u) :: T)⟩) rfl (sq (σ' := ⟨E168 a b c d (some (.int ((1 : Nat) : Int))) (some (.ref (3 + 2 * 1))),FR (up v (3 + 2 * 1) (v (3 + 2 * 1) + 1)) (.ref 10) po nf S (up q 1 (q 1 - 1)) ((.list R,u) :: T)⟩) rfl (sq (bo (a := (true,⟨E168 a b c d (some (.int ((1 : Nat) : Int))) (some (.ref (3 + 2 * 1))),FR (up v (3 + 2 * 1) (v (3 + 2 * 1) + 1)) (.ref 10) po nf S (up q 1 (q 1 - 1)) ((.list R,u) :: T)⟩)) (bo rfl (bo rfl (mo (congrArg some h)))) (ifT rfl (sq (bo (m1 (p := (.ref 10,⟨E168 a b c d (some (.int ((1 : Nat) : Int))) (some (.ref (3 + 2 * 1))),FR (up v (3 + 2 * 1) (v (3 + 2 * 1) + 1)) (.ref 10) po nf S (up q 1 (q 1 - 1)) ((.list R,u) :: T)⟩)) rfl rfl rfl (apE (xs := R) rfl hR)) rfl) rfl))) rfl))
  ·refine sq (σ' := ⟨E168 a b c d (some (.int ((2 : Nat) : Int))) (some (.ref (3 + 2 * 2))),FR v (.ref 10) po nf S q ((.list R,u) :: T)⟩) rfl (sq (σ' := ⟨E168 a b c d (some (.int ((2 : Nat) : Int))) (some (.ref (3 + 2 * 2))),FR (up v (3 + 2 * 2) (v (3 + 2 * 2) + 1)) (.ref 10) po nf S (up q 2 (q 2 - 1)) ((.list R,u) :: T)⟩) rfl (sq (bo (a := (true,⟨E168 a b c d (some (.int ((2 : Nat) : Int))) (some (.ref (3 + 2 * 2))),FR (up v (3 + 2 * 2) (v (3 + 2 * 2) + 1)) (.ref 10) po nf S (up q 2 (q 2 - 1)) ((.list R,u) :: T)⟩)) (bo rfl (bo rfl (mo (congrArg some h)))) (ifT rfl (sq (bo (m1 (p := (.ref 10,⟨E168 a b c d (some (.int ((2 : Nat) : Int))) (some (.ref (3 + 2 * 2))),FR (up v (3 + 2 * 2) (v (3 + 2 * 2) + 1)) (.ref 10) po nf S (up q 2 (q 2 - 1)) ((.list R,u) :: T)⟩)) rfl rfl rfl (apE (xs := R) rfl hR)) rfl) rfl))) rfl))
  ·refine sq (σ' := ⟨E168 a b c d (some (.int ((3 : Nat) : Int))) (some (.ref (3 + 2 * 3))),FR v (.ref 10) po nf S q ((.list R,u) :: T)⟩) rfl (sq (σ' := ⟨E168 a b c d (some (.int ((3 : Nat) : Int))) (some (.ref (3 + 2 * 3))),FR (up v (3 + 2 * 3) (v (3 + 2 * 3) + 1)) (.ref 10) po nf S (up q 3 (q 3 - 1)) ((.list R,u) :: T)⟩) rfl (sq (bo (a := (true,⟨E168 a b c d (some (.int ((3 : Nat) : Int))) (some (.ref (3 + 2 * 3))),FR (up v (3 + 2 * 3) (v (3 + 2 * 3) + 1)) (.ref 10) po nf S (up q 3 (q 3 - 1)) ((.list R,u) :: T)⟩)) (bo rfl (bo rfl (mo (congrArg some h)))) (ifT rfl (sq (bo (m1 (p := (.ref 10,⟨E168 a b c d (some (.int ((3 : Nat) : Int))) (some (.ref (3 + 2 * 3))),FR (up v (3 + 2 * 3) (v (3 + 2 * 3) + 1)) (.ref 10) po nf S (up q 3 (q 3 - 1)) ((.list R,u) :: T)⟩)) rfl rfl rfl (apE (xs := R) rfl hR)) rfl) rfl))) rfl))
 | false =>
  refine ⟨u,?_⟩
  rw [if_neg (by decide)]
  obtain rfl | rfl | rfl | rfl := four (w := w) (by assumption)
  ·refine sq (σ' := ⟨E168 a b c d (some (.int ((0 : Nat) : Int))) (some (.ref (3 + 2 * 0))),FR v (.ref 10) po nf S q ((.list R,u) :: T)⟩) rfl (sq (σ' := ⟨E168 a b c d (some (.int ((0 : Nat) : Int))) (some (.ref (3 + 2 * 0))),FR (up v (3 + 2 * 0) (v (3 + 2 * 0) + 1)) (.ref 10) po nf S (up q 0 (q 0 - 1)) ((.list R,u) :: T)⟩) rfl (sq (bo (a := (false,⟨E168 a b c d (some (.int ((0 : Nat) : Int))) (some (.ref (3 + 2 * 0))),FR (up v (3 + 2 * 0) (v (3 + 2 * 0) + 1)) (.ref 10) po nf S (up q 0 (q 0 - 1)) ((.list R,u) :: T)⟩)) (bo rfl (bo rfl (mo (congrArg some h)))) (ifF rfl rfl)) rfl))
  ·refine sq (σ' := ⟨E168 a b c d (some (.int ((1 : Nat) : Int))) (some (.ref (3 + 2 * 1))),FR v (.ref 10) po nf S q ((.list R,u) :: T)⟩) rfl (sq (σ' := ⟨E168 a b c d (some (.int ((1 : Nat) : Int))) (some (.ref (3 + 2 * 1))),FR (up v (3 + 2 * 1) (v (3 + 2 * 1) + 1)) (.ref 10) po nf S (up q 1 (q 1 - 1)) ((.list R,u) :: T)⟩) rfl (sq (bo (a := (false,⟨E168 a b c d (some (.int ((1 : Nat) : Int))) (some (.ref (3 + 2 * 1))),FR (up v (3 + 2 * 1) (v (3 + 2 * 1) + 1)) (.ref 10) po nf S (up q 1 (q 1 - 1)) ((.list R,u) :: T)⟩)) (bo rfl (bo rfl (mo (congrArg some h)))) (ifF rfl rfl)) rfl))
  ·refine sq (σ' := ⟨E168 a b c d (some (.int ((2 : Nat) : Int))) (some (.ref (3 + 2 * 2))),FR v (.ref 10) po nf S q ((.list R,u) :: T)⟩) rfl (sq (σ' := ⟨E168 a b c d (some (.int ((2 : Nat) : Int))) (some (.ref (3 + 2 * 2))),FR (up v (3 + 2 * 2) (v (3 + 2 * 2) + 1)) (.ref 10) po nf S (up q 2 (q 2 - 1)) ((.list R,u) :: T)⟩) rfl (sq (bo (a := (false,⟨E168 a b c d (some (.int ((2 : Nat) : Int))) (some (.ref (3 + 2 * 2))),FR (up v (3 + 2 * 2) (v (3 + 2 * 2) + 1)) (.ref 10) po nf S (up q 2 (q 2 - 1)) ((.list R,u) :: T)⟩)) (bo rfl (bo rfl (mo (congrArg some h)))) (ifF rfl rfl)) rfl))
  ·refine sq (σ' := ⟨E168 a b c d (some (.int ((3 : Nat) : Int))) (some (.ref (3 + 2 * 3))),FR v (.ref 10) po nf S q ((.list R,u) :: T)⟩) rfl (sq (σ' := ⟨E168 a b c d (some (.int ((3 : Nat) : Int))) (some (.ref (3 + 2 * 3))),FR (up v (3 + 2 * 3) (v (3 + 2 * 3) + 1)) (.ref 10) po nf S (up q 3 (q 3 - 1)) ((.list R,u) :: T)⟩) rfl (sq (bo (a := (false,⟨E168 a b c d (some (.int ((3 : Nat) : Int))) (some (.ref (3 + 2 * 3))),FR (up v (3 + 2 * 3) (v (3 + 2 * 3) + 1)) (.ref 10) po nf S (up q 3 (q 3 - 1)) ((.list R,u) :: T)⟩)) (bo rfl (bo rfl (mo (congrArg some h)))) (ifF rfl rfl)) rfl))
noncomputable def qf (qs : List Int) (w : Nat) : Int := qs.getD w 0
theorem loop168 {a b c d : Option AV} {k c0 : Nat} : ∀ (ss : List Int) (v : Nat → Nat) (qs rd : List Int) (x6 x7 : Option AV) (u : Nat),qs.length = 4 → In4 ss → rd.length + ss.length < 1000 → k < 4 → v (2 + 2 * k) = c0 →
  ∃ v' x6' x7' u',v' (2 + 2 * k) = c0 ∧ forS (fun v σ => some (setE 6 v σ)) b168i (verAt (2 + 2 * k) c0) (ss.map .int) ⟨E168 a b c d x6 x7,FR v (.ref 10) po nf S (qf qs) ((.list (rd.map .int),u) :: T)⟩ =
   some (.next,⟨E168 a b c d x6' x7',FR v' (.ref 10) po nf S (qf (ss.foldl decP (qs,rd)).1) ((.list ((ss.foldl decP (qs,rd)).2.map .int),u') :: T)⟩)
 | [],v,qs,rd,x6,x7,u,_,_,_,_,hv => ⟨v,x6,x7,u,hv,rfl⟩
 | x :: ss,v,qs,rd,x6,x7,u,hq,h4,hl,hk,hv => by
  obtain ⟨w,rfl⟩ : ∃ w : Nat,x = w := ⟨x.toNat,by have := (h4 x (.head _)).1; exact ara ‹_›⟩
  have hw : w < 4 := by have := (h4 _ (.head _)).2; lia
  rw [List.length_cons] at hl
  obtain ⟨u1,e1⟩ := turn168 (v := v) (po := po) (nf := nf) (S := S) (q := qf qs) (u := u) (T := T) hw (a := a) (b := b) (c := c) (d := d) (x7 := x7) (R := rd.map .int) (by rw [List.length_map]; exact ars ‹_›)
  have hd : decP (qs,rd) (w : Int) = (qs.set w (qf qs w - 1),if qf qs w - 1 = 0 then rd ++ [(w : Int)] else rd) := rfl
  have hdl : (decP (qs,rd) (w : Int)).2.length ≤ rd.length + 1 := by
   rw [hd]; dsimp only
   split
   ·rw [List.length_append,List.length_singleton]; exact Nat.le_refl _
   ·exact Nat.le_add_right _ _
  have hv1 : up v (3 + 2 * w) (v (3 + 2 * w) + 1) (2 + 2 * k) = c0 := by
   unfold up; rw [if_neg (by lia)]; exact hv
  obtain ⟨v',x6',x7',u',h1,h2⟩ := loop168 (a := a) (b := b) (c := c) (d := d) ss (up v (3 + 2 * w) (v (3 + 2 * w) + 1)) (decP (qs,rd) (w : Int)).1 (decP (qs,rd) (w : Int)).2 (some (.int (w : Int))) (some (.ref (3 + 2 * w))) u1
   (by rw [hd]; show (qs.set _ _).length = 4; rw [List.length_set]; exact hq) (fun y hy => h4 y (.tail _ hy)) (by lia) hk hv1
  refine ⟨v',x6',x7',u',h1,fC (σ1 := ⟨E168 a b c d (some (.int (w : Int))) x7,_⟩) rfl e1 ?_ (Eq.trans ?_ h2)⟩
  ·show (_ : St → Bool) _ = true
   unfold verAt
   obtain rfl | rfl | rfl | rfl := four (w := k) (by assumption)
   all_goals
    show (up v (3 + 2 * w) (v (3 + 2 * w) + 1) _ == c0) = true
    exact beq_iff_eq.mpr hv1
  ·rw [fr_q (q' := qf (decP (qs,rd) (w : Int)).1),hd]
   ·congr 5
    congr 1
    congr 1
    by_cases h : qf qs w - 1 = 0
    ·rw [if_pos (beq_iff_eq.mpr h),if_pos h,List.map_append]; rfl
    ·rw [if_neg (fun z => h (beq_iff_eq.mp z)),if_neg h]
   ·intro j hj
    rw [hd]
    show up (qf qs) w _ j = (qs.set w _).getD j 0
    unfold up
    rw [List.getD_eq_getElem?_getD,List.getElem?_set]
    by_cases hjw : j = w
    ·subst hjw
     rw [if_pos rfl,if_pos rfl,if_pos (by simp_all)]; rfl
    ·rw [if_neg hjw,if_neg (fun z => hjw z.symm)]
     exact (List.getD_eq_getElem?_getD ..)
noncomputable def b168 : St → Option (AF × St) := fSeq (fun σ => ((fM1 (fName 2) (fName 3) isD getV σ >>= fun p => some (p.1,setE 4 p.1 p.2)) >>= fun p => (some (AV.none,p.2) : Option (AV × St)) >>= fun q => (cmpV CmpOp.Is p.1 q.1 q.2).map fun b => (b,q.2)) >>= fun p => if p.1 = true then none else some (AF.next,p.2))
 (fSeq (fun σ => (fName 4 σ >>= fun p => getF Fld.np p.1 p.2) >>= fun p => some (AF.next,setE 5 p.1 p.2))
 (fSeq (fun σ => (fName 5 σ >>= fun p => (some (AV.int (-1),p.2) : Option (AV × St)) >>= fun q => (cmpV CmpOp.NotEq p.1 q.1 q.2).map fun b => (b,q.2)) >>= fun p => if p.1 = true then none else some (AF.next,p.2))
 (fSeq (fun σ => (some (AV.int (-2),σ) : Option (AV × St)) >>= fun p => fName 4 p.2 >>= fun q => (setF Fld.np q.1 p.1 q.2).map fun σ' => (AF.next,σ'))
 (fSeq (fFor (fun σ => fName 4 σ >>= fun p => getF Fld.succ p.1 p.2) (fun v σ => some (setE 6 v σ)) b168i)
 (fSeq (fun σ => fName 0 σ >>= fun p => getF Fld.nf p.1 p.2 >>= fun q => (some (AV.int 1,q.2) : Option (AV × St)) >>= fun t => inV Operator.Add q.1 t.1 >>= fun x => (setF Fld.nf p.1 x t.2).map fun σ' => (AF.next,σ'))
 fun σ => some (AF.next,σ))))))
noncomputable def qs0 (q : Nat → Int) (k : Nat) : List Int := [up q k (-2) 0,up q k (-2) 1,up q k (-2) 2,up q k (-2) 3]
theorem turnDone {k : Nat} (hk : k < 4) (hq : q k = -1) {ss : List Int} (hS : S k = ss.map .int) (h4 : In4 ss) (hl : ss.length < 900) {a c d x6 x7 : Option AV} :
  ∃ v' c' d' x6' x7' u',b168 ⟨E168 a (some (.int (k : Int))) c d x6 x7,FR v (.ref 10) po nf S q ((.list [],u) :: T)⟩ =
   some (.next,⟨E168 a (some (.int (k : Int))) c' d' x6' x7',FR v' (.ref 10) po (nf + 1) S (qf (ss.foldl decP (qs0 q k,[])).1) ((.list ((ss.foldl decP (qs0 q k,[])).2.map .int),u') :: T)⟩) := by
 obtain ⟨v',x6',x7',u',h1,h2⟩ := loop168 (po := po) (nf := nf) (S := S) (T := T) (a := a) (b := some (.int (k : Int))) (c := some (.ref (3 + 2 * k))) (d := some (.int (-1))) (k := k) (c0 := v (2 + 2 * k)) ss (up v (3 + 2 * k) (v (3 + 2 * k) + 1)) (qs0 q k) [] x6 x7 u rfl h4 (by rw [List.length_nil]; lia) hk (by unfold up; rw [if_neg (by simp)])
 refine ⟨up v' 1 (v' 1 + 1),some (.ref (3 + 2 * k)),some (.int (-1)),x6',x7',u',?_⟩
 refine sq (σ' := ⟨E168 a (some (.int (k : Int))) (some (.ref (3 + 2 * k))) d x6 x7,FR v (.ref 10) po nf S q ((.list [],u) :: T)⟩) ?_ (sq (σ' := ⟨E168 a (some (.int (k : Int))) (some (.ref (3 + 2 * k))) (some (.int (-1))) x6 x7,FR v (.ref 10) po nf S q ((.list [],u) :: T)⟩) ?_ (sq rfl (sq (σ' := ⟨E168 a (some (.int (k : Int))) (some (.ref (3 + 2 * k))) (some (.int (-1))) x6 x7,FR (up v (3 + 2 * k) (v (3 + 2 * k) + 1)) (.ref 10) po nf S (qf (qs0 q k)) ((.list [],u) :: T)⟩) ?_
  (sq (f := fFor _ _ _) (bo (a := (.ref (2 + 2 * k),⟨E168 a (some (.int (k : Int))) (some (.ref (3 + 2 * k))) (some (.int (-1))) x6 x7,FR (up v (3 + 2 * k) (v (3 + 2 * k) + 1)) (.ref 10) po nf S (qf (qs0 q k)) ((.list [],u) :: T)⟩)) ?_ (bo (a := (ss.map .int,verAt (2 + 2 * k) (v (2 + 2 * k)))) ?_ h2)) (sq (bo rfl (bo rfl (bo rfl (bo rfl (mo rfl))))) rfl)))))
 ·obtain rfl | rfl | rfl | rfl := four (w := k) (by assumption)
  all_goals rfl
 ·obtain rfl | rfl | rfl | rfl := four (w := k) (by assumption)
  all_goals rw [← hq]; rfl
 ·obtain rfl | rfl | rfl | rfl := four (w := k) (by assumption)
  all_goals rfl
 ·obtain rfl | rfl | rfl | rfl := four (w := k) (by assumption)
  all_goals rfl
 ·rw [← hS]
  obtain rfl | rfl | rfl | rfl := four (w := k) (by assumption)
  all_goals rfl
theorem done_eq {k : Nat} (hk : k < 4) (hq : q k = -1) {ss : List Int} (hS : S k = ss.map .int) (h4 : In4 ss) (hl : ss.length < 900) {env : List (Option AV)} :
  ∃ v' u',w168.1 [.ref 1,.int (k : Int)] ⟨env,FR v (.ref 10) po nf S q ((.list [],u) :: T)⟩ =
   some (.none,⟨env,FR v' (.ref 10) po (nf + 1) S (qf (ss.foldl decP (qs0 q k,[])).1) ((.list ((ss.foldl decP (qs0 q k,[])).2.map .int),u') :: T)⟩) := by
 obtain ⟨v',c',d',x6',x7',u',h⟩ := turnDone (v := v) (po := po) (nf := nf) (u := u) (T := T) hk hq hS h4 hl (a := some (.tp [.int (k : Int)])) (c := none) (d := none) (x6 := none) (x7 := none)
 exact ⟨v',u',bo (sq rfl (sq rfl (sq (f := fFor _ _ _) (bo rfl (bo rfl (fC rfl h rfl rfl))) rfl))) rfl⟩
end
noncomputable def sl (N : Nat → List Int) : Nat → List Int
 | 0 => (([] ++ seg N 0 1) ++ seg N 0 2) ++ seg N 0 3
 | 1 => ([] ++ seg N 1 2) ++ seg N 1 3
 | 2 => [] ++ seg N 2 3
 | _ => []
noncomputable def Sf (N : Nat → List Int) (w : Nat) : List AV := (sl N w).map .int
noncomputable def ndA (N : Nat → List Int) : AV := .fl [.fl ((N 0).map .int),.fl ((N 1).map .int),.fl ((N 2).map .int),.fl ((N 3).map .int)]
structure NOk (N : Nat → List Int) : Prop where
 g : GoodN N
 l : ∀ w,(N w).length ≤ 6
 t : (N 1).length + (N 2).length + (N 3).length ≤ 30
theorem segA_seg {N : Nat → List Int} {w m : Nat} : segA (N m) w m = (seg N w m).map .int := by
 unfold segA seg; rw [List.map_map]; rfl
theorem seg_nil {N : Nat → List Int} (h : GoodN N) {w m : Nat} (hw : m ≤ w) : seg N w m = [] := by
 unfold seg
 rw [List.filter_eq_nil_iff.mpr]
 ·rfl
 ·intro e he
  have := (h m e he).2
  simp; lia
theorem seg_le {N : Nat → List Int} {w : Int} {m : Nat} : (seg N w m).length ≤ (N m).length := by
 unfold seg; rw [List.length_map]; exact List.length_filter_le ..
theorem seg_val {N : Nat → List Int} {w : Int} {m : Nat} {x : Int} (h : x ∈ seg N w m) : x = m := by
 unfold seg at h
 obtain ⟨_,_,rfl⟩ := List.mem_map.mp h
 rfl
theorem sl_in {N : Nat → List Int} {w : Nat} {x : Int} (h : x ∈ sl N w) : ∃ m : Nat,x = (m : Int) ∧ w < m ∧ m < 4 := by
 match w,h with
 | 0,h =>
  simp only [sl,List.nil_append,List.mem_append] at h
  rcases h with (h | h) | h
  ·exact ⟨1,seg_val h,by decide,by decide⟩
  ·exact ⟨2,seg_val h,by decide,by decide⟩
  ·exact ⟨3,seg_val h,by decide,by decide⟩
 | 1,h =>
  simp only [sl,List.nil_append,List.mem_append] at h
  rcases h with h | h
  ·exact ⟨2,seg_val h,by decide,by decide⟩
  ·exact ⟨3,seg_val h,by decide,by decide⟩
 | 2,h =>
  simp only [sl,List.nil_append] at h
  exact ⟨3,seg_val h,by decide,by decide⟩
 | n + 3,h => exact nomatch h
theorem sl_in4 {N : Nat → List Int} {w : Nat} : In4 (sl N w) := by
 intro x hx
 obtain ⟨m,rfl,_,h⟩ := sl_in hx
 omega
theorem cn3 (l : List Int) : (l.filter (· == (0 : Int))).length + (l.filter (· == (1 : Int))).length + (l.filter (· == (2 : Int))).length ≤ l.length := by
 induction l with
 | nil => exact Nat.le_refl _
 | cons a l ih =>
  simp only [List.filter_cons,List.length_cons]
  by_cases h0 : a = 0
  ·subst h0; simp at ih ⊢; omega
  ·by_cases h1 : a = 1
   ·subst h1; simp at ih ⊢; omega
   ·by_cases h2 : a = 2
    ·subst h2; simp at ih ⊢; exact Nat.lt_succ_of_le ‹_›
    ·simp [h0,h1,h2] at ih ⊢; exact Nat.le_succ_of_le ‹_›
theorem sl_total {N : Nat → List Int} (h : NOk N) : (Sf N 0).length + (Sf N 1).length + (Sf N 2).length + (Sf N 3).length ≤ 30 := by
 have e : ∀ w,(Sf N w).length = (sl N w).length := fun w => List.length_map ..
 have l1 := cn3 (N 1)
 have l2 := cn3 (N 2)
 have l3 := cn3 (N 3)
 have t := h.t
 rw [e,e,e,e]
 simp only [sl,List.length_append,List.length_nil,seg,List.length_map]
 lia
noncomputable def b217a : St → Option (AF × St) := fSeq (fun σ => fOwnM (fName 2) (fCons (fName 3) fun σ => (fName 0 σ >>= fun p => fName 3 p.2 >>= fun q => subV p.1 q.1 q.2) >>= fun q => spreadV q.1 q.2 >>= fun xs => (some ([],q.2) : Option (List AV × St)) >>= fun t => some (xs ++ t.1,t.2)) w135.1 σ >>= fun p => some (AF.next,p.2)) fun σ => some (AF.next,σ)
theorem turnAdd {N : Nat → List Int} (h : NOk N) {m : Nat} (hm : m < 4) {v : Nat → Nat} {S : Nat → List AV} {q : Nat → Int} {a e : Option AV} (hS : ∀ w,(S w).length ≤ 6 * m) :
  ∃ v',b217a ⟨[some (ndA N),a,some (.ref 1),some (.int (m : Int)),e],FM m v S q⟩ = some (.next,⟨[some (ndA N),a,some (.ref 1),some (.int (m : Int)),e],FM (m + 1) v' (fun w => up S m [] w ++ segA (N m) w m) (up q m (N m).length)⟩) := by
 obtain ⟨v',e1⟩ := add_eq hm (env := [some (ndA N),a,some (.ref 1),some (.int (m : Int)),e]) (v := v) (S := S) (q := q) (ps := N m) (fun x hx => h.g m x hx) (h.l m) fun w => by have := hS w; lia
 refine ⟨v',sq (bo (ownM (q := (.int (m : Int) :: (N m).map .int,⟨[some (ndA N),a,some (.ref 1),some (.int (m : Int)),e],FM m v S q⟩)) rfl ?_ ?_ e1) rfl) rfl⟩
 ·rfl
 ·refine bo rfl (bo (a := ((N m).map .int,⟨[some (ndA N),a,some (.ref 1),some (.int (m : Int)),e],FM m v S q⟩)) ?_ rfl)
  refine bo (a := (.fl ((N m).map .int),⟨[some (ndA N),a,some (.ref 1),some (.int (m : Int)),e],FM m v S q⟩)) ?_ (bo (a := (N m).map .int) ?_ ?_)
  ·obtain rfl | rfl | rfl | rfl := four (w := m) (by assumption)
   all_goals rfl
  ·show (if ((N m).map AV.int).length ≤ 1000 then some ((N m).map AV.int) else none) = _
   rw [List.length_map,if_pos (by have := h.l m; lia)]
  ·show some ((N m).map AV.int ++ [],_) = _
   rw [List.append_nil]
theorem adds {N : Nat → List Int} (h : NOk N) {v : Nat → Nat} {S : Nat → List AV} {q : Nat → Int} {a e : Option AV} (hS : ∀ w,S w = []) :
  ∃ v',forS (fun v σ => some (setE 3 v σ)) b217a (fun _ => true) (rangeL 4) ⟨[some (ndA N),a,some (.ref 1),none,e],FM 0 v S q⟩ = some (.next,⟨[some (ndA N),a,some (.ref 1),some (.int 3),e],FR v' .none 0 0 (Sf N) (fun w => ((N w).length : Int)) []⟩) := by
 have hl : ∀ (S : Nat → List AV) (m k : Nat),(∀ w,(S w).length ≤ k) → ∀ w,(up S m [] w ++ segA (N m) w m).length ≤ k + 6 := fun S m k hk w => by
  rw [List.length_append,segA_seg,List.length_map]
  have := hk w
  have h1 : (seg N w m).length ≤ (N m).length := seg_le
  have h2 := h.l m
  unfold up
  split
  ·rw [List.length_nil]; lia
  ·lia
 obtain ⟨v0,e0⟩ := turnAdd h (m := 0) (by decide) (v := v) (S := S) (q := q) (a := a) (e := e) fun w => by rw [hS]; exact Nat.zero_le _
 have s0 := hl S 0 0 fun w => by rw [hS]; exact Nat.zero_le _
 obtain ⟨v1,e1⟩ := turnAdd h (m := 1) (by decide) (v := v0) (S := _) (q := up q 0 (N 0).length) (a := a) (e := e) fun w => s0 w
 have s1 := hl _ 1 6 s0
 obtain ⟨v2,e2⟩ := turnAdd h (m := 2) (by decide) (v := v1) (S := _) (q := up (up q 0 (N 0).length) 1 (N 1).length) (a := a) (e := e) fun w => s1 w
 have s2 := hl _ 2 12 s1
 obtain ⟨v3,e3⟩ := turnAdd h (m := 3) (by decide) (v := v2) (S := _) (q := up (up (up q 0 (N 0).length) 1 (N 1).length) 2 (N 2).length) (a := a) (e := e) fun w => s2 w
 refine ⟨v3,fC rfl e0 rfl (fC rfl e1 rfl (fC rfl e2 rfl (fC rfl e3 rfl ?_)))⟩
 rw [fm_S (S' := Sf N)]
 ·rfl
 ·intro w hw
  have z0 := seg_nil h.g (w := 0) (m := 0) (by decide)
  have z1 := seg_nil h.g (w := 1) (m := 1) (by decide)
  have z2 := seg_nil h.g (w := 2) (m := 2) (by decide)
  have z3 := seg_nil h.g (w := 3) (m := 3) (by decide)
  simp only [segA_seg]
  obtain rfl | rfl | rfl | rfl := four (w := w) (by assumption)
  ·show ((([] ++ (seg N 0 0).map AV.int) ++ (seg N 0 1).map .int) ++ (seg N 0 2).map .int) ++ (seg N 0 3).map .int = Sf N 0
   rw [show seg N (0 : Int) 0 = [] from z0]
   simp [Sf,sl]
  ·show (([] ++ (seg N 1 1).map AV.int) ++ (seg N 1 2).map .int) ++ (seg N 1 3).map .int = Sf N 1
   rw [show seg N (1 : Int) 1 = [] from z1]
   simp [Sf,sl]
  ·show ([] ++ (seg N 2 2).map AV.int) ++ (seg N 2 3).map .int = Sf N 2
   rw [show seg N (2 : Int) 2 = [] from z2]
   simp [Sf,sl]
  ·show [] ++ (seg N 3 3).map AV.int = Sf N 3
   rw [show seg N (3 : Int) 3 = [] from z3]
   simp [Sf,sl]
noncomputable def freeL (N : Nat → List Int) : List Int → List Int → List Int → List Int
 | _,fs,[] => fs
 | pre,fs,k :: r => freeL N (pre ++ [k]) (fs.erase k ++ rdP N pre k) r
noncomputable def okL (N : Nat → List Int) : List Int → List Int → List Int → Bool
 | _,_,[] => true
 | pre,fs,k :: r => fs.any (· == k) && okL N (pre ++ [k]) (fs.erase k ++ rdP N pre k) r
noncomputable def b217b : St → Option (AF × St) := fSeq (fun σ => fOwnM (fName 2) (fCons (fName 3) fun σ => some ([],σ)) w168.1 σ >>= fun p => some (AF.next,p.2))
 (fSeq (fun σ => fM1 (fName 4) (fName 3) isL removeV σ >>= fun p => some (AF.next,p.2))
 (fSeq (fun σ => fM1 (fName 4) (fOwnM (fName 2) (fun σ => some ([],σ)) w147.1) isL extV σ >>= fun p => some (AF.next,p.2)) fun σ => some (AF.next,σ)))
theorem spec_in4 {N : Nat → List Int} {pre fs : List Int} (h : FreeSpec N pre fs) : In4 fs := fun w hw => ⟨((h.2 w).mp hw).1,((h.2 w).mp hw).2.1⟩
theorem done_list {N : Nat → List Int} (h : NOk N) {pre : List Int} {k : Nat} (hk : k < 4) (hv : ValidP N pre) (hp : (k : Int) ∉ pre) :
  (sl N k).foldl decP (qs0 (stat N pre) k,[]) = ((List.range 4).map fun w => if w = k then -2 else stat N pre w - cn N k w,rdP N pre k) := by
 have c : ∀ w : Nat,w ≤ k → (cn N (k : Int) w : Int) = 0 := fun w hw => by rw [cn_low h.g (by exact Int.ofNat_le.mpr ‹_›)]; rfl
 obtain rfl | rfl | rfl | rfl := four (w := k) (by assumption)
 ·exact done_pure0 h.g hv hp
 ·refine (done_pure1 h.g hv hp).trans ?_
  have c0 := c 0 (by decide)
  show ([stat N pre 0,_,_,_],_) = ([stat N pre 0 - _,_,_,_],_)
  rw [c0,Int.sub_zero]; rfl
 ·refine (done_pure2 h.g hv hp).trans ?_
  have c0 := c 0 (by decide)
  have c1 := c 1 (by decide)
  show ([stat N pre 0,stat N pre 1,_,_],_) = ([stat N pre 0 - _,stat N pre 1 - _,_,_],_)
  rw [c0,c1,Int.sub_zero,Int.sub_zero]; rfl
 ·refine (done_pure3 h.g).trans ?_
  have c0 := c 0 (by decide)
  have c1 := c 1 (by decide)
  have c2 := c 2 (by decide)
  show ([stat N pre 0,stat N pre 1,stat N pre 2,_],_) = ([stat N pre 0 - _,stat N pre 1 - _,stat N pre 2 - _,_],_)
  rw [c0,c1,c2,Int.sub_zero,Int.sub_zero,Int.sub_zero]; rfl
theorem last_get {T : List (AO × Nat)} {x : AO × Nat} : (T ++ [x])[T.length]? = some x := by
 rw [List.getElem?_append_right (Nat.le_refl _),Nat.sub_self]; rfl
theorem last_set {T : List (AO × Nat)} {x y : AO × Nat} : (T ++ [x]).set T.length y = T ++ [y] := by
 rw [List.set_append_right _ _ (Nat.le_refl _),Nat.sub_self]; rfl
theorem remove_eq {σ : St} {n j : Nat} {ks : List Int} {k : Int} (h : σ.heap[n]? = some (.list (ks.map .int),j)) (hl : ks.length < 1000) (hk : ks.any (· == k) = true) : removeV (.ref n) (.int k) σ = some (.none,turn σ n (.list ((ks.erase k).map .int)) j) := by
 unfold removeV; simp only [h]
 rw [toInts_map]
 dsimp only
 rw [if_pos ⟨hl,hk⟩]; rfl
theorem extend_eq {σ : St} {n j : Nat} {xs ys : List AV} (h : σ.heap[n]? = some (.list xs,j)) (hl : xs.length + ys.length < 1000) : extV (.ref n) (.tp ys) σ = some (.none,turn σ n (.list (xs ++ ys)) j) := by
 unfold extV; simp only [h]
 rw [if_pos hl]
section
variable {v : Nat → Nat} {po nf : Int} {S : Nat → List AV} {q : Nat → Int} {u : AO × Nat} {T : List (AO × Nat)} {env : List (Option AV)} {z : Nat} {a b : Option AV}
theorem at_last {x : AO × Nat} : (⟨env,FR v (.ref 10) po nf S q (u :: (T ++ [x]))⟩ : St).heap[T.length + 11]? = some x := last_get
theorem isL_last {xs : List AV} : isL (.ref (T.length + 11)) ⟨env,FR v (.ref 10) po nf S q (u :: (T ++ [(.list xs,z)]))⟩ = true := by
 have := at_last (env := env) (v := v) (po := po) (nf := nf) (S := S) (q := q) (u := u) (T := T) (x := (.list xs,z))
 unfold isL; simp only [this]
theorem turn_last {x y : AO} : turn ⟨env,FR v (.ref 10) po nf S q (u :: (T ++ [(x,z)]))⟩ (T.length + 11) y z = ⟨env,FR v (.ref 10) po nf S q (u :: (T ++ [(y,z + 1)]))⟩ := by
 have : turn ⟨env,FR v (.ref 10) po nf S q (u :: (T ++ [(x,z)]))⟩ (T.length + 11) y z = (⟨env,FR v (.ref 10) po nf S q (u :: (T ++ [(x,z)]).set T.length (y,z + 1))⟩ : St) := rfl
 rw [this,last_set]
theorem rem_at {fs : List Int} {k : Nat} (hl : fs.length < 1000) (hk : (k : Int) ∈ fs) :
  fM1 (fName 4) (fName 3) isL removeV ⟨[a,b,some (.ref 1),some (.int (k : Int)),some (.ref (T.length + 11))],FR v (.ref 10) po nf S q (u :: (T ++ [(.list (fs.map .int),z)]))⟩ =
   some (.none,⟨[a,b,some (.ref 1),some (.int (k : Int)),some (.ref (T.length + 11))],FR v (.ref 10) po nf S q (u :: (T ++ [(.list ((fs.erase (k : Int)).map .int),z + 1)]))⟩) := by
 refine m1 (p := (.ref (T.length + 11),_)) rfl isL_last (q := (.int (k : Int),_)) rfl ?_
 rw [remove_eq at_last hl (any_eq_mem.mpr hk),turn_last]
theorem ext_at {x : Option AV} {es rs : List Int} {v' : Nat → Nat} {po' nf' : Int} {q' : Nat → Int} {u' : AO × Nat} (hl : es.length + rs.length < 1000)
  (h : w147.1 [.ref 1] ⟨[a,b,some (.ref 1),x,some (.ref (T.length + 11))],FR v (.ref 10) po nf S q (u :: (T ++ [(.list (es.map .int),z)]))⟩ = some (.tp (rs.map .int),⟨[a,b,some (.ref 1),x,some (.ref (T.length + 11))],FR v' (.ref 10) po' nf' S q' (u' :: (T ++ [(.list (es.map .int),z)]))⟩)) :
  fM1 (fName 4) (fOwnM (fName 2) (fun σ => some ([],σ)) w147.1) isL extV ⟨[a,b,some (.ref 1),x,some (.ref (T.length + 11))],FR v (.ref 10) po nf S q (u :: (T ++ [(.list (es.map .int),z)]))⟩ =
   some (.none,⟨[a,b,some (.ref 1),x,some (.ref (T.length + 11))],FR v' (.ref 10) po' nf' S q' (u' :: (T ++ [(.list ((es ++ rs).map .int),z + 1)]))⟩) := by
 refine m1 (p := (.ref (T.length + 11),_)) rfl isL_last (q := (.tp (rs.map .int),_)) (ownM rfl rfl rfl h) ?_
 rw [extend_eq at_last (by rw [List.length_map,List.length_map]; exact hl),turn_last,List.map_append]
end
theorem turnRun {N : Nat → List Int} (h : NOk N) {pre fs : List Int} (hf : FreeSpec N pre fs) (hv : ValidP N pre) {k : Nat} (hk : (k : Int) ∈ fs) {v : Nat → Nat} {po nf : Int} {u z : Nat} {T : List (AO × Nat)} {a b : Option AV} :
  ∃ v' po' nf' u' z',b217b ⟨[a,b,some (.ref 1),some (.int (k : Int)),some (.ref (T.length + 11))],FR v (.ref 10) po nf (Sf N) (stat N pre) ((.list [],u) :: (T ++ [(.list (fs.map .int),z)]))⟩ =
   some (.next,⟨[a,b,some (.ref 1),some (.int (k : Int)),some (.ref (T.length + 11))],FR v' (.ref 10) po' nf' (Sf N) (stat N (pre ++ [(k : Int)])) ((.list [],u') :: (T ++ [(.list ((fs.erase (k : Int) ++ rdP N pre k).map .int),z')]))⟩) := by
 have f4 := spec_in4 hf
 have hk4 : k < 4 := by have := (f4 _ hk).2; omega
 have fk := (hf.2 (k : Int)).mp hk
 have hkp : (k : Int) ∉ pre := fk.2.2.1
 have r4 : In4 (rdP N pre k) := fun x hx => ⟨(mem_rdP.mp hx).1,(mem_rdP.mp hx).2.1⟩
 have hfl := nodup4_length hf.1 f4
 have hlen : (sl N k).length < 900 := by
  have := sl_total h
  have e : ∀ w,(Sf N w).length = (sl N w).length := fun w => List.length_map ..
  rw [e,e,e,e] at this
  obtain rfl | rfl | rfl | rfl := four (w := k) (by assumption)
  all_goals omega
 obtain ⟨v1,u1,e1⟩ := done_eq (v := v) (po := po) (nf := nf) (S := Sf N) (q := stat N pre) (u := u) (T := T ++ [(.list (fs.map .int),z)]) hk4 (stat_free fk) rfl sl_in4 hlen (env := [a,b,some (.ref 1),some (.int (k : Int)),some (.ref (T.length + 11))])
 rw [done_list h hk4 hv hkp] at e1
 dsimp only at e1
 obtain ⟨v2,e2⟩ := ready_eq (v := v1) (po := po) (nf := nf + 1) (S := Sf N) (q := qf ((List.range 4).map fun w => if w = k then -2 else stat N pre w - cn N k w)) (u := u1) (T := T ++ [(.list ((fs.erase (k : Int)).map .int),z + 1)]) r4 (by have := rdP_length (N := N) (pre := pre) (k := k); lia) (env := [a,b,some (.ref 1),some (.int (k : Int)),some (.ref (T.length + 11))])
 rw [fr_q (q := outQ (rdP N pre k) _) (q' := stat N (pre ++ [(k : Int)]))] at e2
 ·have el : (fs.erase (k : Int)).length ≤ 4 := Nat.le_trans (List.length_erase_le ..) hfl
  have rl := rdP_length (N := N) (pre := pre) (k := k)
  have k2 := rem_at (v := v1) (po := po) (nf := nf + 1) (S := Sf N) (q := qf ((List.range 4).map fun w => if w = k then -2 else stat N pre w - cn N k w)) (u := (.list ((rdP N pre k).map .int),u1)) (T := T) (fs := fs) (z := z) (a := a) (b := b) (k := k) (by lia) hk
  have k3 := ext_at (a := a) (b := b) (x := some (.int (k : Int))) (v := v1) (po := po) (nf := nf + 1) (S := Sf N) (q := qf ((List.range 4).map fun w => if w = k then -2 else stat N pre w - cn N k w)) (u := (.list ((rdP N pre k).map .int),u1)) (T := T) (es := fs.erase (k : Int)) (z := z + 1) (rs := rdP N pre k) (by lia) e2
  refine ⟨v2,_,_,u1 + 1,z + 2,sq (bo (ownM rfl rfl rfl e1) rfl) (sq (bo k2 rfl) (sq (bo k3 rfl) rfl))⟩
 ·intro w hw
  have e3 : qf ((List.range 4).map fun w => if w = k then -2 else stat N pre w - cn N k w) w = if w = k then -2 else stat N pre w - cn N k w := by
   unfold qf
   obtain rfl | rfl | rfl | rfl := four (w := w) (by assumption)
   all_goals rfl
  unfold outQ
  rw [e3]
  by_cases hwk : w = k
  ·subst hwk
   rw [if_neg,if_pos rfl,stat_done]
   intro q
   have := (rdP_any hk4).mp q
   exact this.1 (cn_low h.g (Int.le_refl _))
  ·rw [if_neg hwk,← stat_step hv hkp (by lia)]
   by_cases hr : (rdP N pre k).any (· == (w : Int)) = true
   ·rw [if_pos hr,if_pos ((rdP_any hw).mp hr)]
   ·rw [if_neg hr,if_neg fun z => hr ((rdP_any hw).mpr z)]
theorem loopRun {N : Nat → List Int} (h : NOk N) {T : List (AO × Nat)} {a b : Option AV} : ∀ (run pre fs : List Int) (v : Nat → Nat) (po nf : Int) (u z : Nat) (x : Option AV),FreeSpec N pre fs → ValidP N pre → okL N pre fs run = true →
  ∃ v' po' nf' u' z' x' q',forS (fun v σ => some (setE 3 v σ)) b217b (fun _ => true) (run.map .int) ⟨[a,b,some (.ref 1),x,some (.ref (T.length + 11))],FR v (.ref 10) po nf (Sf N) (stat N pre) ((.list [],u) :: (T ++ [(.list (fs.map .int),z)]))⟩ =
   some (.next,⟨[a,b,some (.ref 1),x',some (.ref (T.length + 11))],FR v' (.ref 10) po' nf' (Sf N) q' ((.list [],u') :: (T ++ [(.list ((freeL N pre fs run).map .int),z')]))⟩)
 | [],pre,fs,v,po,nf,u,z,x,_,_,_ => ⟨v,po,nf,u,z,x,_,rfl⟩
 | k :: r,pre,fs,v,po,nf,u,z,x,hf,hv,ho => by
  unfold okL at ho
  rw [Bool.and_eq_true] at ho
  have hk : k ∈ fs := any_eq_mem.mp ho.1
  have hk4 := spec_in4 hf k hk
  obtain ⟨k,rfl⟩ : ∃ n : Nat,k = n := ⟨k.toNat,by exact ard ‹_›⟩
  obtain ⟨v1,po1,nf1,u1,z1,e1⟩ := turnRun h hf hv hk (v := v) (po := po) (nf := nf) (u := u) (z := z) (T := T) (a := a) (b := b)
  obtain ⟨f2,v2⟩ := free_step h.g hv hf hk
  obtain ⟨v',po',nf',u',z',x',q',e2⟩ := loopRun h (T := T) (a := a) (b := b) r (pre ++ [(k : Int)]) (fs.erase (k : Int) ++ rdP N pre k) v1 po1 nf1 u1 z1 (some (.int (k : Int))) f2 v2 ho.2
  exact ⟨v',po',nf',u',z',x',q',fC rfl e1 rfl e2⟩
theorem flat_nd {N : Nat → List Int} {run : List Int} : (decide ([ndA N,AV.fl (run.map .int)].length = 2) && [ndA N,AV.fl (run.map .int)].all (flat 8)) = true := by
 have f := fun (k : Nat) (ns : List Int) => flat_ints k ns
 simp only [List.length_cons,List.length_nil,List.all_cons,List.all_nil,Bool.and_true,ndA]
 show (decide (2 = 2) && (((((N 0).map AV.int).all (flat 6)) && ((((N 1).map AV.int).all (flat 6)) && ((((N 2).map AV.int).all (flat 6)) && ((((N 3).map AV.int).all (flat 6)) && true)))) && (run.map AV.int).all (flat 7))) = true
 rw [f 5,f 5,f 5,f 5,f 6]
 rfl
theorem frz_last {v : Nat → Nat} {po nf : Int} {S : Nat → List AV} {q : Nat → Int} {u : AO × Nat} {T : List (AO × Nat)} {z : Nat} {fs : List Int} : frz (FR v (.ref 10) po nf S q (u :: (T ++ [(.list (fs.map .int),z)]))) 8 (.ref (T.length + 11)) = some (.fl (fs.map .int)) := by
 have h := at_last (env := []) (v := v) (po := po) (nf := nf) (S := S) (q := q) (u := u) (T := T) (x := (.list (fs.map .int),z))
 replace h : (FR v (.ref 10) po nf S q (u :: (T ++ [(.list (fs.map .int),z)])))[T.length + 11]? = some (.list (fs.map .int),z) := h
 rw [frz_ref h]
 rw [allO_ints]; rfl
theorem zeros_in4 {N : Nat → List Int} : In4 (zerosP N) := spec_in4 zeros_spec
theorem valid_nil {N : Nat → List Int} : ValidP N [] := fun _ h => nomatch h
theorem free_eq {N : Nat → List Int} (h : NOk N) {run : List Int} (ho : okL N [] (zerosP N) run = true) {σ : St} : w217.1 [ndA N,.fl (run.map .int)] σ = some (.fl ((freeL N [] (zerosP N) run).map .int),σ) := by
 obtain ⟨v1,e1⟩ := adds h (v := fun _ => 0) (S := fun _ => []) (q := fun _ => 0) (a := some (.fl (run.map .int))) (e := none) fun _ => rfl
 have hS : ∀ n,n < 4 → ∀ y ∈ Sf N n,∃ m : Nat,y = .int (m : Int) ∧ n < m ∧ m < 4 := fun n _ y hy => by
  obtain ⟨x,hx,rfl⟩ := List.mem_map.mp hy
  obtain ⟨m,rfl,h1,h2⟩ := sl_in hx
  exact ⟨m,rfl,h1,h2⟩
 obtain ⟨T,e2⟩ := prep_eq (v := v1) (S := Sf N) (q := fun w => ((N w).length : Int)) hS (sl_total h) (env := [some (ndA N),some (.fl (run.map .int)),some (.ref 1),some (.int 3),none])
 obtain ⟨v3,e3⟩ := ready_eq (v := up v1 1 (v1 1 + 1)) (po := 0) (nf := 0) (S := Sf N) (q := fun w => ((N w).length : Int)) (u := 0) (T := T) (rs := zerosP N) zeros_in4 (by have := nodup4_length zeros_spec.1 (zeros_in4 (N := N)); lia) (env := [some (ndA N),some (.fl (run.map .int)),some (.ref 1),some (.int 3),none])
 rw [fr_q (q := outQ (zerosP N) _) (q' := stat N [])] at e3
 ·obtain ⟨v',po',nf',u',z',x',q',e4⟩ := loopRun h (T := T) (a := some (ndA N)) (b := some (.fl (run.map .int))) run [] (zerosP N) v3 (0 + (zerosP N).length) 0 1 0 (some (.int 3)) zeros_spec valid_nil ho
  have k3 : fB1 (fOwnM (fName 2) (fun σ => some ([],σ)) w147.1) listV ⟨[some (ndA N),some (.fl (run.map .int)),some (.ref 1),some (.int 3),none],FR (up v1 1 (v1 1 + 1)) (.ref 10) 0 0 (Sf N) (fun w => ((N w).length : Int)) ((.list ((zerosP N).map .int),0) :: T)⟩ =
    some (.ref (T.length + 11),⟨[some (ndA N),some (.fl (run.map .int)),some (.ref 1),some (.int 3),none],FR v3 (.ref 10) (0 + (zerosP N).length) 0 (Sf N) (stat N []) ((.list [],1) :: (T ++ [(.list ((zerosP N).map .int),0)]))⟩) := by
   refine bo (ownM rfl rfl rfl e3) ?_
   show (if ((zerosP N).map AV.int).length < 1000 then _ else none) = _
   rw [if_pos (by have := nodup4_length zeros_spec.1 (zeros_in4 (N := N)); rw [List.length_map]; omega)]
   rfl
  exact pure_eq flat_nd (sq rfl (sq (f := fRange _ _ _) (bo rfl e1) (sq (bo (ownM rfl rfl rfl e2) rfl) (sq (bo k3 rfl) (sq (f := fFor _ _ _) (bo rfl (bo rfl e4)) (sqR rfl)))))) frz_last
 ·intro w hw
  have hz : ((zerosP N).any (· == (w : Int)) = true) ↔ N w = [] := by
   rw [any_eq_mem,mem_zeros]
   simp only [Int.toNat_natCast]
   constructor
   ·rintro ⟨_,_,h⟩; exact h
   ·intro h; exact ⟨by exact Int.natCast_nonneg _,by exact Int.ofNat_lt.mpr ‹_›,h⟩
  have e5 : stat N [] w = if (N w).length = 0 then -1 else ((N w).length : Int) := by
   unfold stat
   rw [pend_nil]
   exact if_neg (by simp)
  rw [e5]
  unfold outQ
  by_cases hn : N w = []
  ·rw [if_pos (hz.mpr hn),if_pos (by rw [hn]; rfl)]
  ·rw [if_neg fun q => hn (hz.mp q),if_neg fun q => hn (List.length_eq_zero_iff.mp q)]
theorem comp_map {ta : AV → St → Option St} {fi : St → Option (Bool × St)} {fe : St → Option (AV × St)} (g : AV → AV) (P : St → Prop) : ∀ (xs acc : List AV) (σ : St),P σ → (∀ x ∈ xs,∀ σ,P σ → ∃ σ1 σ2 σ3,ta x σ = some σ1 ∧ fi σ1 = some (true,σ2) ∧ fe σ2 = some (g x,σ3) ∧ P σ3) → ∃ σ',compS ta fi fe acc xs σ = some (acc ++ xs.map g,σ')
 | [],acc,σ,_,_ => ⟨σ,by rw [List.map_nil,List.append_nil]; rfl⟩
 | x :: xs,acc,σ,hP,h => by
  obtain ⟨σ1,σ2,σ3,h1,h2,h3,h4⟩ := h x (.head _) σ hP
  obtain ⟨σ',e⟩ := comp_map g P xs (acc ++ [g x]) σ3 h4 fun y hy => h y (.tail _ hy)
  refine ⟨σ',comp_cons h1 h2 h3 (fun _ => ?_) (fun q => nomatch q)⟩
  rw [e,List.append_assoc]; rfl
theorem fcomp_eq {cm : List (Option Nat)} {fs : St → Option (List AV × St)} {ta : AV → St → Option St} {fi : St → Option (Bool × St)} {fe : St → Option (AV × St)} {σ σ1 σ' : St} {xs ys : List AV} (h0 : blkIn cm σ = true) (h1 : fs σ = some (xs,σ1)) (h2 : xs.length ≤ 1000) (h3 : compS ta fi fe [] xs ⟨blkE cm σ1,σ1.heap⟩ = some (ys,σ')) : fComp cm fs ta fi fe σ = some (ys,σ1) := by
 unfold fComp
 rw [if_pos h0,h1]
 show (if xs.length ≤ 1000 then _ else none) = _
 rw [if_pos h2]
 show (compS ta fi fe [] xs _ >>= _) = _
 rw [h3]; rfl
noncomputable def rowA (r : List Int) : AV := .fl (r.map .int)
noncomputable def rowsA (rs : List (List Int)) : List AV := rs.map rowA
noncomputable def keyR (run : List Int) : Int := (run.map fun w => (2 : Int) ^ w.toNat).sum
noncomputable def dA (D : List (Int × List Int)) : List (Int × AV) := D.map fun p => (p.1,rowA p.2)
theorem dA_look (D : List (Int × List Int)) (k : Int) : (dA D).lookup k = (D.lookup k).map rowA := by
 induction D with
 | nil => rfl
 | cons p r ih =>
  obtain ⟨x,y⟩ := p
  show List.lookup k ((x,rowA y) :: dA r) = _
  rw [List.lookup_cons,List.lookup_cons,ih]
  cases k == x <;> rfl
theorem dA_len (D : List (Int × List Int)) : (dA D).length = D.length := List.length_map ..
noncomputable def sKey : St → Option (AF × St) := fun σ => fB1 (fun σ => fComp [none,none] (fun σ => fName 5 σ >>= fun p => spreadV p.1 p.2 >>= fun xs => some (xs,p.2)) (fun v σ => some (setE 1 v σ)) (fun σ => some (true,σ)) (fun σ => (some (AV.int 2,σ) : Option (AV × St)) >>= fun p => fName 1 p.2 >>= fun q => (binV Operator.Pow p.1 q.1 q.2).map fun v => (v,q.2)) σ >>= fun q => some (AV.fl q.1,q.2)) sumV σ >>= fun p => some (AF.next,setE 6 p.1 p.2)
noncomputable def sFree : St → Option (AF × St) := fun σ => (fName 6 σ >>= fun p => fName 1 p.2 >>= fun q => (cmpV CmpOp.NotIn p.1 q.1 q.2).map fun b => (b,q.2)) >>= fun p => if p.1 = true then fSeq (fun σ => (fCons (fName 0) (fCons (fName 5) fun σ => some ([],σ)) σ >>= fun q => w217.1 q.1 q.2) >>= fun p => fName 1 p.2 >>= fun q => fName 6 q.2 >>= fun t => (setI q.1 t.1 p.1 t.2).map fun σ' => (AF.next,σ')) (fun σ => some (AF.next,σ)) p.2 else some (AF.next,p.2)
noncomputable def sExt : St → Option (AF × St) := fun σ => fM1 (fName 4) (fun σ => fComp [none,none,some 5] (fun σ => (fName 1 σ >>= fun p => fName 6 p.2 >>= fun q => subV p.1 q.1 q.2) >>= fun p => spreadV p.1 p.2 >>= fun xs => some (xs,p.2)) (fun v σ => some (setE 1 v σ)) (fun σ => some (true,σ)) (fun σ => fName 2 σ >>= fun p => fListF (fCons (fName 1) fun σ => some ([],σ)) p.2 >>= fun q => (binV Operator.Add p.1 q.1 q.2).map fun v => (v,q.2)) σ >>= fun q => some (AV.fl q.1,q.2)) isL extV σ >>= fun p => some (AF.next,p.2)
noncomputable def b222 : St → Option (AF × St) := fSeq sKey (fSeq sFree (fSeq sExt fun σ => some (AF.next,σ)))
section
variable {nd : AV} {D : List (Int × List Int)} {d l : Nat} {M : List (AO × Nat)} {lg : List (List Int)} {run : List Int} {x2 x3 x6 : Option AV}
noncomputable def RE (nd : AV) (x2 x3 : Option AV) (j : Nat) (x5 x6 : Option AV) : List (Option AV) := [some nd,some (.ref 0),x2,x3,some (.ref j),x5,x6]
noncomputable def RH (D : List (Int × List Int)) (d : Nat) (M : List (AO × Nat)) (lg : List (List Int)) (l : Nat) : List (AO × Nat) := (.dict (dA D),d) :: (M ++ [(.list (rowsA lg),l)])
theorem key_ok (h4 : In4 run) (hl : run.length ≤ 100) {H : List (AO × Nat)} {j : Nat} : sKey ⟨RE nd x2 x3 j (some (rowA run)) x6,H⟩ = some (.next,⟨RE nd x2 x3 j (some (rowA run)) (some (.int (keyR run))),H⟩) := by
 obtain ⟨σ',e⟩ := comp_map (ta := fun v σ => some (setE 1 v σ)) (fi := fun σ => some (true,σ)) (fe := fun σ => (some (AV.int 2,σ) : Option (AV × St)) >>= fun p => fName 1 p.2 >>= fun q => (binV Operator.Pow p.1 q.1 q.2).map fun v => (v,q.2))
  (fun v => match v with | .int w => .int ((2 : Int) ^ w.toNat) | _ => .none) (fun σ => ∃ a b,σ = ⟨[a,b],H⟩) (run.map .int) [] ⟨[none,none],H⟩ ⟨none,none,rfl⟩ (by
   rintro v hv σ ⟨a,b,rfl⟩
   obtain ⟨w,hw,rfl⟩ := List.mem_map.mp hv
   refine ⟨⟨[a,some (.int w)],H⟩,_,⟨[a,some (.int w)],H⟩,rfl,rfl,bo rfl (bo rfl (mo ?_)),a,_,rfl⟩
   show ((if 0 ≤ w ∧ (Builtin.Int.intBits 2 : Int) * w ≤ 2 ^ 27 then some ((2 : Int) ^ w.toNat) else none).map AV.int) = _
   have := h4 w hw
   rw [if_pos ⟨this.1,by have : (Builtin.Int.intBits 2 : Int) = 2 := (by decide); rw [this]; lia⟩]
   rfl)
 have e2 : fComp [none,none] (fun σ => fName 5 σ >>= fun p => spreadV p.1 p.2 >>= fun xs => some (xs,p.2)) (fun v σ => some (setE 1 v σ)) (fun σ => some (true,σ)) (fun σ => (some (AV.int 2,σ) : Option (AV × St)) >>= fun p => fName 1 p.2 >>= fun q => (binV Operator.Pow p.1 q.1 q.2).map fun v => (v,q.2)) ⟨RE nd x2 x3 j (some (rowA run)) x6,H⟩ = some ((run.map fun w => (2 : Int) ^ w.toNat).map .int,⟨RE nd x2 x3 j (some (rowA run)) x6,H⟩) := by
  refine fcomp_eq (σ' := σ') (xs := run.map .int) rfl (bo rfl (bo (a := run.map .int) ?_ rfl)) (by rw [List.length_map]; lia) (e.trans ?_)
  ·show (if (run.map AV.int).length ≤ 1000 then some (run.map AV.int) else none) = _
   rw [if_pos (by rw [List.length_map]; omega)]
  ·rw [List.nil_append,List.map_map,List.map_map]; rfl
 refine bo (a := (.int (keyR run),⟨RE nd x2 x3 j (some (rowA run)) x6,H⟩)) (bo (bo e2 rfl) ?_) rfl
 refine mo (f := fun ks : List Int => (AV.int ks.sum,_)) ?_
 exact toInts_map _
theorem free_old {j : Nat} (h : (D.lookup (keyR run)).isSome = true) : sFree ⟨RE nd x2 x3 j (some (rowA run)) (some (.int (keyR run))),RH D d M lg l⟩ = some (.next,⟨RE nd x2 x3 j (some (rowA run)) (some (.int (keyR run))),RH D d M lg l⟩) := by
 refine bo (a := (false,⟨RE nd x2 x3 j (some (rowA run)) (some (.int (keyR run))),RH D d M lg l⟩)) (bo rfl (bo rfl (mo ?_))) rfl
 show some (!((dA D).lookup (keyR run)).isSome) = _
 rw [dA_look,Option.isSome_map,h]; rfl
theorem free_new {fr : List Int → List Int} {j : Nat} (h : (D.lookup (keyR run)).isSome = false) (hD : D.length < 900) (hF : ∀ σ,w217.1 [nd,rowA run] σ = some (rowA (fr run),σ)) : sFree ⟨RE nd x2 x3 j (some (rowA run)) (some (.int (keyR run))),RH D d M lg l⟩ = some (.next,⟨RE nd x2 x3 j (some (rowA run)) (some (.int (keyR run))),RH (D ++ [(keyR run,fr run)]) (d + 1) M lg l⟩) := by
 refine bo (a := (true,⟨RE nd x2 x3 j (some (rowA run)) (some (.int (keyR run))),RH D d M lg l⟩)) (bo rfl (bo rfl (mo ?_))) ?_
 ·show some (!((dA D).lookup (keyR run)).isSome) = _
  rw [dA_look,Option.isSome_map,h]; rfl
 ·refine ifT rfl (sq (bo (bo rfl (hF _)) (bo rfl (bo rfl (mo (a := ⟨RE nd x2 x3 j (some (rowA run)) (some (.int (keyR run))),RH (D ++ [(keyR run,fr run)]) (d + 1) M lg l⟩) ?_)))) rfl)
  show (if (dA D).length < 1000 then some (turn _ 0 (.dict (putA (dA D) (keyR run) (rowA (fr run)))) d) else none) = _
  rw [if_pos (by rw [dA_len]; omega),put_new]
  ·have : dA D ++ [(keyR run,rowA (fr run))] = dA (D ++ [(keyR run,fr run)]) := by unfold dA; rw [List.map_append]; rfl
   rw [this]; rfl
  ·intro e he q
   have hl : ((dA D).lookup (keyR run)).isSome = false := by rw [dA_look,Option.isSome_map,h]
   clear hF h
   revert he hl
   generalize dA D = c
   intro he hl
   induction c with
   | nil => exact nomatch he
   | cons a r ih =>
    obtain ⟨x,y⟩ := a
    rw [List.lookup_cons] at hl
    rcases List.mem_cons.mp he with rfl | he
    ·rw [show (keyR run == x) = true by rw [beq_iff_eq]; exact q.symm] at hl
     cases hl
    ·cases hb : keyR run == x with
     | true => rw [hb] at hl; cases hl
     | false => rw [hb] at hl; exact ih he hl
theorem ext_ok {fs : List Int} (h : D.lookup (keyR run) = some fs) (hl : run.length ≤ 100) (hf : fs.length ≤ 100) (hg : lg.length ≤ 800) : sExt ⟨RE nd x2 x3 (M.length + 1) (some (rowA run)) (some (.int (keyR run))),RH D d M lg l⟩ = some (.next,⟨RE nd x2 x3 (M.length + 1) (some (rowA run)) (some (.int (keyR run))),RH D d M (lg ++ fs.map fun w => run ++ [w]) (l + 1)⟩) := by
 obtain ⟨σ',e⟩ := comp_map (ta := fun v σ => some (setE 1 v σ)) (fi := fun σ => some (true,σ)) (fe := fun σ => fName 2 σ >>= fun p => fListF (fCons (fName 1) fun σ => some ([],σ)) p.2 >>= fun q => (binV Operator.Add p.1 q.1 q.2).map fun v => (v,q.2))
  (fun v => match v with | .int w => rowA (run ++ [w]) | _ => .none) (fun σ => ∃ a b,σ = ⟨[a,b,some (rowA run)],RH D d M lg l⟩) (fs.map .int) [] ⟨[none,none,some (rowA run)],RH D d M lg l⟩ ⟨none,none,rfl⟩ (by
   rintro v hv σ ⟨a,b,rfl⟩
   obtain ⟨w,hw,rfl⟩ := List.mem_map.mp hv
   refine ⟨⟨[a,some (.int w),some (rowA run)],RH D d M lg l⟩,_,⟨[a,some (.int w),some (rowA run)],RH D d M lg l⟩,rfl,rfl,bo rfl (bo rfl (mo ?_)),a,_,rfl⟩
   show (spreadV (rowA run) _ >>= fun xs => binL .Add xs (.fl [.int w]) _) = _
   refine bo (a := run.map .int) ?_ ?_
   ·show (if (run.map AV.int).length ≤ 1000 then some (run.map AV.int) else none) = _
    rw [if_pos (by rw [List.length_map]; lia)]
   ·show some (AV.fl (run.map .int ++ [.int w])) = some (AV.fl ((run ++ [w]).map .int))
    rw [List.map_append]; rfl)
 have e2 : fComp [none,none,some 5] (fun σ => (fName 1 σ >>= fun p => fName 6 p.2 >>= fun q => subV p.1 q.1 q.2) >>= fun p => spreadV p.1 p.2 >>= fun xs => some (xs,p.2)) (fun v σ => some (setE 1 v σ)) (fun σ => some (true,σ)) (fun σ => fName 2 σ >>= fun p => fListF (fCons (fName 1) fun σ => some ([],σ)) p.2 >>= fun q => (binV Operator.Add p.1 q.1 q.2).map fun v => (v,q.2)) ⟨RE nd x2 x3 (M.length + 1) (some (rowA run)) (some (.int (keyR run))),RH D d M lg l⟩ =
   some (rowsA (fs.map fun w => run ++ [w]),⟨RE nd x2 x3 (M.length + 1) (some (rowA run)) (some (.int (keyR run))),RH D d M lg l⟩) := by
  refine fcomp_eq (σ' := σ') (xs := fs.map .int) rfl (bo (a := (rowA fs,_)) (bo rfl (bo rfl ?_)) (bo (a := fs.map .int) ?_ rfl)) (by rw [List.length_map]; lia) (e.trans ?_)
  ·show ((dA D).lookup (keyR run)).map _ = _
   rw [dA_look,h]; rfl
  ·show (if (fs.map AV.int).length ≤ 1000 then some (fs.map AV.int) else none) = _
   rw [if_pos (by rw [List.length_map]; omega)]
  ·rw [List.nil_append]
   unfold rowsA
   rw [List.map_map,List.map_map]; rfl
 have hget : (⟨RE nd x2 x3 (M.length + 1) (some (rowA run)) (some (.int (keyR run))),RH D d M lg l⟩ : St).heap[M.length + 1]? = some (.list (rowsA lg),l) := last_get
 refine bo (a := (.none,⟨RE nd x2 x3 (M.length + 1) (some (rowA run)) (some (.int (keyR run))),RH D d M (lg ++ fs.map fun w => run ++ [w]) (l + 1)⟩)) (m1 (p := (.ref (M.length + 1),_)) rfl ?_ (bo e2 rfl) ?_) rfl
 ·unfold isL; simp only [hget]
 ·show extV (.ref (M.length + 1)) (.fl (rowsA (fs.map fun w => run ++ [w]))) _ = _
  unfold extV; simp only [hget]
  rw [if_pos (by unfold rowsA; rw [List.length_map,List.length_map,List.length_map]; lia)]
  show some (AV.none,(⟨_,(.dict (dA D),d) :: (M ++ [(AO.list (rowsA lg),l)]).set M.length (.list (rowsA lg ++ rowsA (fs.map fun w => run ++ [w])),l + 1)⟩ : St)) = _
  rw [last_set]
  unfold RH rowsA
  rw [List.map_append]
noncomputable def turnR (okr : List Int → Bool) (fr : List Int → List Int) (p : List (Int × List Int) × List (List Int)) (run : List Int) : Option (List (Int × List Int) × List (List Int)) :=
 match p.1.lookup (keyR run) with
 | some fs => if run.all (fun w => decide (0 ≤ w ∧ w < 4)) && decide (run.length ≤ 100) && decide (fs.length ≤ 100) && decide (p.2.length ≤ 800) then some (p.1,p.2 ++ fs.map fun w => run ++ [w]) else none
 | none => if run.all (fun w => decide (0 ≤ w ∧ w < 4)) && decide (run.length ≤ 100) && decide ((fr run).length ≤ 100) && decide (p.2.length ≤ 800) && okr run && decide (p.1.length < 900) then some (p.1 ++ [(keyR run,fr run)],p.2 ++ (fr run).map fun w => run ++ [w]) else none
noncomputable def foldR (okr : List Int → Bool) (fr : List Int → List Int) : List (Int × List Int) × List (List Int) → List (List Int) → Option (List (Int × List Int) × List (List Int))
 | p,[] => some p
 | p,r :: rs => turnR okr fr p r >>= fun p => foldR okr fr p rs
theorem all_in4 (h : run.all (fun w => decide (0 ≤ w ∧ w < 4)) = true) : In4 run := fun w hw => of_decide_eq_true (List.all_eq_true.mp h w hw)
theorem look_app {D : List (Int × List Int)} {k : Int} {v : List Int} (h : D.lookup k = none) : (D ++ [(k,v)]).lookup k = some v := by
 induction D with
 | nil => simp
 | cons a r ih =>
  obtain ⟨x,y⟩ := a
  rw [List.lookup_cons] at h
  rw [List.cons_append,List.lookup_cons]
  cases hb : k == x with
  | true => rw [hb] at h; cases h
  | false => rw [hb] at h; exact ih h
set_option tactic.hygienic true in
theorem turn222 {okr : List Int → Bool} {fr : List Int → List Int} (hF : ∀ r,okr r = true → ∀ σ,w217.1 [nd,rowA r] σ = some (rowA (fr r),σ)) {p : List (Int × List Int) × List (List Int)} (h : turnR okr fr (D,lg) run = some p) :
  ∃ d' l',b222 ⟨RE nd x2 x3 (M.length + 1) (some (rowA run)) x6,RH D d M lg l⟩ = some (.next,⟨RE nd x2 x3 (M.length + 1) (some (rowA run)) (some (.int (keyR run))),RH p.1 d' M p.2 l'⟩) := by
 unfold turnR at h
 dsimp only at h
 split at h
 ·rename_i fs hD
  split at h
  ·rename_i hc
   simp only [Bool.and_eq_true] at hc
   obtain ⟨⟨⟨h1,h2⟩,h3⟩,h4⟩ := hc
   cases h
   exact ⟨d,l + 1,sq (key_ok (all_in4 h1) (of_decide_eq_true h2)) (sq (free_old (by rw [hD]; rfl)) (sq (ext_ok hD (of_decide_eq_true h2) (of_decide_eq_true h3) (of_decide_eq_true h4)) rfl))⟩
  ·cases h
 ·rename_i hD
  split at h
  ·rename_i hc
   simp only [Bool.and_eq_true] at hc
   obtain ⟨⟨⟨⟨⟨h1,h2⟩,h3⟩,h4⟩,h5⟩,h6⟩ := hc
   cases h
   exact ⟨d + 1,l + 1,sq (key_ok (all_in4 h1) (of_decide_eq_true h2)) (sq (free_new (by rw [hD]; rfl) (of_decide_eq_true h6) (hF run h5)) (sq (ext_ok (look_app hD) (of_decide_eq_true h2) (of_decide_eq_true h3) (of_decide_eq_true h4)) rfl))⟩
  ·cases h
theorem loop222 {okr : List Int → Bool} {fr : List Int → List Int} (hF : ∀ r,okr r = true → ∀ σ,w217.1 [nd,rowA r] σ = some (rowA (fr r),σ)) {i k : Nat} {xs : List AV} (hi : M[i]? = some (.list xs,k)) : ∀ (rs : List (List Int)) (D : List (Int × List Int)) (lg : List (List Int)) (d l : Nat) (x5 x6 : Option AV) (p : List (Int × List Int) × List (List Int)),foldR okr fr (D,lg) rs = some p →
  ∃ d' l' x5' x6',forS (fun v σ => some (setE 5 v σ)) b222 (verAt (i + 1) k) (rowsA rs) ⟨RE nd x2 x3 (M.length + 1) x5 x6,RH D d M lg l⟩ = some (.next,⟨RE nd x2 x3 (M.length + 1) x5' x6',RH p.1 d' M p.2 l'⟩)
 | [],D,lg,d,l,x5,x6,p,h => by cases h; exact ⟨d,l,x5,x6,rfl⟩
 | r :: rs,D,lg,d,l,x5,x6,p,h => by
  obtain ⟨⟨D1,lg1⟩,e1,e2⟩ := bS h
  obtain ⟨d1,l1,t⟩ := turn222 (nd := nd) (D := D) (d := d) (l := l) (M := M) (lg := lg) (run := r) (x2 := x2) (x3 := x3) (x6 := x6) hF e1
  obtain ⟨d',l',x5',x6',e3⟩ := loop222 hF hi rs D1 lg1 d1 l1 (some (rowA r)) (some (.int (keyR r))) p e2
  refine ⟨d',l',x5',x6',fC (σ1 := ⟨RE nd x2 x3 (M.length + 1) (some (rowA r)) x6,RH D d M lg l⟩) rfl t ?_ e3⟩
  have : (⟨RE nd x2 x3 (M.length + 1) (some (rowA r)) (some (.int (keyR r))),RH D1 d1 M lg1 l1⟩ : St).heap[i + 1]? = some (.list xs,k) := by
   show (M ++ _)[i]? = _
   rw [List.getElem?_append_left (List.getElem?_eq_some_iff.mp hi).1]; exact hi
  unfold verAt; simp only [this]
  simp
noncomputable def stepR (okr : List Int → Bool) (fr : List Int → List Int) (p : List (Int × List Int) × List (List Int)) : Option (List (Int × List Int) × List (List Int)) := foldR okr fr (p.1,[]) p.2
noncomputable def runsP (okr : List Int → Bool) (fr : List Int → List Int) : Option (List (List Int)) := stepR okr fr ([],[[]]) >>= fun p => stepR okr fr p >>= fun p => stepR okr fr p >>= fun p => stepR okr fr p >>= fun p => some p.2
noncomputable def s222 : St → Option (AF × St) := fSeq (fun σ => fList (fun σ => some ([],σ)) σ >>= fun p => some (AF.next,setE 4 p.1 p.2)) (fSeq (fFor (fName 2) (fun v σ => some (setE 5 v σ)) b222) (fSeq (fun σ => fName 4 σ >>= fun p => some (AF.next,setE 2 p.1 p.2)) fun σ => some (AF.next,σ)))
theorem step222 {okr : List Int → Bool} {fr : List Int → List Int} (hF : ∀ r,okr r = true → ∀ σ,w217.1 [nd,rowA r] σ = some (rowA (fr r),σ)) {i k : Nat} {p q : List (Int × List Int) × List (List Int)} (hi : M[i]? = some (.list (rowsA p.2),k)) (h : stepR okr fr p = some q) {x4 x5 : Option AV} :
  ∃ d' j x5' x6' M',s222 ⟨[some nd,some (.ref 0),some (.ref (i + 1)),x3,x4,x5,x6],(.dict (dA p.1),d) :: M⟩ = some (.next,⟨[some nd,some (.ref 0),some (.ref (j + 1)),x3,some (.ref (j + 1)),x5',x6'],(.dict (dA q.1),d') :: M'⟩) ∧ ∃ k',M'[j]? = some (.list (rowsA q.2),k') := by
 obtain ⟨d',l',x5',x6',e⟩ := loop222 (nd := nd) (x2 := some (.ref (i + 1))) (x3 := x3) (M := M) hF hi p.2 p.1 [] d 0 x5 x6 q h
 refine ⟨d',M.length,x5',x6',M ++ [(.list (rowsA q.2),l')],sq (σ' := ⟨RE nd (some (.ref (i + 1))) x3 (M.length + 1) x5 x6,RH p.1 d M [] 0⟩) rfl (sq (f := fFor _ _ _) (bo rfl (bo (a := (rowsA p.2,verAt (i + 1) k)) ?_ e)) (sq rfl rfl)),l',last_get⟩
 have : (⟨RE nd (some (.ref (i + 1))) x3 (M.length + 1) x5 x6,RH p.1 d M [] 0⟩ : St).heap[i + 1]? = some (.list (rowsA p.2),k) := by
  show (M ++ _)[i]? = _
  rw [List.getElem?_append_left (List.getElem?_eq_some_iff.mp hi).1]; exact hi
 show itemsOf (.ref (i + 1)) _ = _
 unfold itemsOf; simp only [this]
theorem allO_rows {H : List (AO × Nat)} {k : Nat} (rs : List (List Int)) : allO (frz H (k + 2)) (rowsA rs) = some (rowsA rs) := by
 induction rs with
 | nil => rfl
 | cons r rs ih =>
  show (((allO (frz H (k + 1)) (r.map .int)).map AV.fl) >>= fun y => allO (frz H (k + 2)) (rowsA rs) >>= fun ys => some (y :: ys)) = _
  rw [allO_ints,ih]; rfl
theorem runs_eq {okr : List Int → Bool} {fr : List Int → List Int} (hF : ∀ r,okr r = true → ∀ σ,w217.1 [nd,rowA r] σ = some (rowA (fr r),σ)) (hn : flat 8 nd = true) {rs : List (List Int)} (h : runsP okr fr = some rs) {σ : St} : w222.1 [nd] σ = some (.fl (rowsA rs),σ) := by
 obtain ⟨p1,e1,h⟩ := bS h
 obtain ⟨p2,e2,h⟩ := bS h
 obtain ⟨p3,e3,h⟩ := bS h
 obtain ⟨p4,e4,h⟩ := bS h
 cases h
 obtain ⟨d1,j1,a1,b1,M1,f1,k1,g1⟩ := step222 (nd := nd) (d := 0) (M := [(.list [.fl []],0)]) (x3 := some (.int 0)) (x6 := none) (i := 0) (k := 0) (x4 := none) (x5 := none) hF (p := ([],[[]])) rfl e1
 obtain ⟨d2,j2,a2,b2,M2,f2,k2,g2⟩ := step222 (nd := nd) (d := d1) (M := M1) (x3 := some (.int 1)) (x6 := b1) (x4 := some (.ref (j1 + 1))) (x5 := a1) hF g1 e2
 obtain ⟨d3,j3,a3,b3,M3,f3,k3,g3⟩ := step222 (nd := nd) (d := d2) (M := M2) (x3 := some (.int 2)) (x6 := b2) (x4 := some (.ref (j2 + 1))) (x5 := a2) hF g2 e3
 obtain ⟨d4,j4,a4,b4,M4,f4,k4,g4⟩ := step222 (nd := nd) (d := d3) (M := M3) (x3 := some (.int 3)) (x6 := b3) (x4 := some (.ref (j3 + 1))) (x5 := a3) hF g3 e4
 have lp : forS (fun v σ => some (setE 3 v σ)) s222 (fun _ => true) (rangeL 4) ⟨[some nd,some (.ref 0),some (.ref 1),none,none,none,none],(.dict (dA []),0) :: [(.list [.fl []],0)]⟩ = some (.next,⟨[some nd,some (.ref 0),some (.ref (j4 + 1)),some (.int 3),some (.ref (j4 + 1)),a4,b4],(.dict (dA p4.1),d4) :: M4⟩) :=
  fC rfl f1 rfl (fC rfl f2 rfl (fC rfl f3 rfl (fC rfl f4 rfl rfl)))
 refine pure_eq (σ' := ⟨_,(.dict (dA p4.1),d4) :: M4⟩) (by simp only [List.all_cons,List.all_nil,Bool.and_true,hn]; rfl) (sq rfl (sq rfl (sq (f := fRange _ _ _) (bo rfl lp) (sqR rfl)))) ?_
 have : (((.dict (dA p4.1),d4) :: M4 : List (AO × Nat)))[j4 + 1]? = some (.list (rowsA p4.2),k4) := g4
 show frz _ 8 (.ref (j4 + 1)) = _
 rw [frz_ref this]
 rw [allO_rows]; rfl
end
theorem comp_filt {ta : AV → St → Option St} {fi : St → Option (Bool × St)} {fe : St → Option (AV × St)} (c : Int → Bool) (P : St → Prop) : ∀ (xs : List Int) (acc : List AV) (σ : St),P σ → (∀ n ∈ xs,∀ σ,P σ → ∃ σ1 σ2,ta (.int n) σ = some σ1 ∧ fi σ1 = some (c n,σ2) ∧ fe σ2 = some (.int n,σ2) ∧ P σ2) → ∃ σ',compS ta fi fe acc (xs.map .int) σ = some (acc ++ (xs.filter c).map .int,σ')
 | [],acc,σ,_,_ => ⟨σ,by rw [List.filter_nil,List.map_nil,List.append_nil]; rfl⟩
 | x :: xs,acc,σ,hP,h => by
  obtain ⟨σ1,σ2,h1,h2,h3,h4⟩ := h x (.head _) σ hP
  cases hc : c x with
  | true =>
   obtain ⟨σ',e⟩ := comp_filt c P xs (acc ++ [.int x]) σ2 h4 fun y hy => h y (.tail _ hy)
   refine ⟨σ',comp_cons h1 h2 h3 (fun _ => ?_) (fun q => absurd (hc.symm.trans q) (by decide))⟩
   rw [e,List.append_assoc,List.filter_cons,if_pos hc]; rfl
  | false =>
   obtain ⟨σ',e⟩ := comp_filt c P xs acc σ2 h4 fun y hy => h y (.tail _ hy)
   refine ⟨σ',comp_cons h1 h2 h3 (fun q => absurd (hc.symm.trans q) (by decide)) (fun _ => ?_)⟩
   rw [e,List.filter_cons,if_neg (by rw [hc]; decide)]
noncomputable def oNeed : St → Option (List AV × St) := fun σ => fComp [none,none,some 5,some 4] (fun σ => (fName 0 σ >>= fun p => fName 2 p.2 >>= fun q => subV p.1 q.1 q.2) >>= fun p => spreadV p.1 p.2 >>= fun xs => some (xs,p.2)) (fun v σ => some (setE 1 v σ))
 (fun σ => fName 1 σ >>= fun p => (fName 3 p.2 >>= fun a => fName 2 a.2 >>= fun b => sliceV a.1 (fun ks i => ks.take i.toNat) b.1 b.2) >>= fun q => (cmpV CmpOp.NotIn p.1 q.1 q.2).map fun b => (b,q.2)) (fName 1) σ
noncomputable def oApp : St → Option (AF × St) := fun σ => fM1 (fName 3) (fun σ => ((fName 4 σ >>= fun a => fName 5 a.2 >>= fun b => sliceV a.1 (fun ks i => ks.take i.toNat) b.1 b.2) >>= fun p => fListF (fCons (fName 2) fun σ => some ([],σ)) p.2 >>= fun q => (binV Operator.Add p.1 q.1 q.2).map fun v => (v,q.2)) >>= fun p =>
 (fName 4 p.2 >>= fun a => fName 5 a.2 >>= fun b => sliceV a.1 (fun ks i => ks.drop i.toNat) b.1 b.2) >>= fun q => (binV Operator.Add p.1 q.1 q.2).map fun v => (v,q.2)) isL appendV σ >>= fun p => some (AF.next,p.2)
noncomputable def b227k : St → Option (AF × St) := fSeq (fun σ => ((oNeed σ >>= fun q => some (AV.fl q.1,q.2)) >>= fun p => fListF (fun σ => some ([],σ)) p.2 >>= fun q => (cmpV CmpOp.Eq p.1 q.1 q.2).map fun b => (b,q.2)) >>= fun p => if p.1 = true then fSeq oApp (fun σ => some (AF.next,σ)) p.2 else some (AF.next,p.2)) fun σ => some (AF.next,σ)
noncomputable def okAt (N : Nat → List Int) (w : Nat) (ord : List Int) (k : Nat) : Bool := (N w).filter (fun e => !(ord.take k).any (· == e)) == []
noncomputable def kO (N : Nat → List Int) (w : Nat) (ord : List Int) (lg : List (List Int)) (k : Nat) : List (List Int) := if okAt N w ord k = true then lg ++ [(ord.take k ++ [(w : Int)]) ++ ord.drop k] else lg
section
variable {N : Nat → List Int} {w : Nat} {ord : List Int} {M : List (AO × Nat)} {lg : List (List Int)} {l k : Nat} {x1 : Option AV}
noncomputable def OE (N : Nat → List Int) (x1 : Option AV) (w j : Nat) (x4 x5 : Option AV) : List (Option AV) := [some (ndA N),x1,some (.int (w : Int)),some (.ref j),x4,x5]
noncomputable def OH (M : List (AO × Nat)) (lg : List (List Int)) (l : Nat) : List (AO × Nat) := M ++ [(.list (rowsA lg),l)]
theorem slice_row {f : List Int → Int → List Int} {σ : St} (h : ord.length ≤ 100) : sliceV (rowA ord) f (.int (k : Int)) σ = some (rowA (f ord k),σ) := by
 show (if 0 ≤ (k : Int) then toInts (ord.map .int) >>= _ else none) = _
 rw [if_pos (by exact Int.natCast_nonneg _),toInts_map]
 show (if ord.length ≤ 1000 then _ else none) = _
 rw [if_pos (by lia)]; rfl
theorem add_rows {a b : List Int} {σ : St} (ha : a.length ≤ 200) (hb : b.length ≤ 200) : binV Operator.Add (rowA a) (rowA b) σ = some (rowA (a ++ b)) := by
 show (spreadV (rowA a) σ >>= fun xs => binL .Add xs (rowA b) σ) = _
 refine bo (a := a.map .int) ?_ ?_
 ·show (if (a.map AV.int).length ≤ 1000 then some (a.map AV.int) else none) = _
  rw [if_pos (by rw [List.length_map]; lia)]
 ·show (spreadV (rowA b) σ >>= fun ys => some (AV.fl (a.map .int ++ ys))) = _
  refine bo (a := b.map .int) ?_ ?_
  ·show (if (b.map AV.int).length ≤ 1000 then some (b.map AV.int) else none) = _
   rw [if_pos (by rw [List.length_map]; lia)]
  ·unfold rowA; rw [List.map_append]
theorem need_ok (hN : NOk N) (hw : w < 4) (ho : ord.length ≤ 100) {j : Nat} {H : List (AO × Nat)} : oNeed ⟨OE N x1 w j (some (rowA ord)) (some (.int (k : Int))),H⟩ = some (((N w).filter fun e => !(ord.take k).any (· == e)).map .int,⟨OE N x1 w j (some (rowA ord)) (some (.int (k : Int))),H⟩) := by
 obtain ⟨σ',e⟩ := comp_filt (ta := fun v σ => some (setE 1 v σ)) (fi := fun σ => fName 1 σ >>= fun p => (fName 3 p.2 >>= fun a => fName 2 a.2 >>= fun b => sliceV a.1 (fun ks i => ks.take i.toNat) b.1 b.2) >>= fun q => (cmpV CmpOp.NotIn p.1 q.1 q.2).map fun b => (b,q.2)) (fe := fName 1)
  (fun e => !(ord.take k).any (· == e)) (fun σ => ∃ a b,σ = ⟨[a,b,some (.int (k : Int)),some (rowA ord)],H⟩) (N w) [] ⟨[none,none,some (.int (k : Int)),some (rowA ord)],H⟩ ⟨none,none,rfl⟩ (by
   rintro n hn σ ⟨a,b,rfl⟩
   refine ⟨⟨[a,some (.int n),some (.int (k : Int)),some (rowA ord)],H⟩,⟨[a,some (.int n),some (.int (k : Int)),some (rowA ord)],H⟩,rfl,bo rfl (bo (bo rfl (bo rfl (slice_row ho))) (mo ?_)),rfl,a,_,rfl⟩
   show (toInts ((ord.take k).map .int)).map _ = _
   rw [toInts_map]; rfl)
 refine fcomp_eq (σ' := σ') (xs := (N w).map .int) rfl (bo (a := (rowA (N w),⟨OE N x1 w j (some (rowA ord)) (some (.int (k : Int))),H⟩)) (bo rfl (bo rfl ?_)) (bo (a := (N w).map .int) ?_ rfl)) (by rw [List.length_map]; have := hN.l w; lia) e
 ·obtain rfl | rfl | rfl | rfl := four (w := w) (by assumption)
  all_goals rfl
 ·show (if ((N w).map AV.int).length ≤ 1000 then some ((N w).map AV.int) else none) = _
  rw [if_pos (by rw [List.length_map]; have := hN.l w; omega)]
theorem app_ok (ho : ord.length ≤ 100) (hg : lg.length ≤ 800) : oApp ⟨OE N x1 w M.length (some (rowA ord)) (some (.int (k : Int))),OH M lg l⟩ = some (.next,⟨OE N x1 w M.length (some (rowA ord)) (some (.int (k : Int))),OH M (lg ++ [(ord.take k ++ [(w : Int)]) ++ ord.drop k]) (l + 1)⟩) := by
 have hget : (⟨OE N x1 w M.length (some (rowA ord)) (some (.int (k : Int))),OH M lg l⟩ : St).heap[M.length]? = some (.list (rowsA lg),l) := last_get
 have l1 : (ord.take k).length ≤ 100 := by rw [List.length_take]; grind
 have l2 : (ord.drop k).length ≤ 100 := by rw [List.length_drop]; omega
 refine bo (a := (.none,⟨OE N x1 w M.length (some (rowA ord)) (some (.int (k : Int))),OH M (lg ++ [(ord.take k ++ [(w : Int)]) ++ ord.drop k]) (l + 1)⟩)) (m1 (p := (.ref M.length,_)) rfl ?_ (q := (rowA ((ord.take k ++ [(w : Int)]) ++ ord.drop k),⟨OE N x1 w M.length (some (rowA ord)) (some (.int (k : Int))),OH M lg l⟩)) ?_ ?_) rfl
 ·unfold isL; simp only [hget]
 ·refine bo (a := (rowA (ord.take k ++ [(w : Int)]),_)) (bo (bo rfl (bo rfl (slice_row ho))) (bo (a := (rowA [(w : Int)],_)) rfl (mo (add_rows (by rw [Int.toNat_natCast]; lia) (by simp))))) (bo (bo rfl (bo rfl (slice_row ho))) (mo ((add_rows ?_ ?_).trans ?_)))
  ·rw [List.length_append,List.length_singleton]; lia
  ·rw [Int.toNat_natCast]; lia
  ·rw [Int.toNat_natCast]
 ·show appendV (.ref M.length) _ _ = _
  rw [apE hget (by unfold rowsA; rw [List.length_map]; omega)]
  show some (AV.none,(⟨_,(M ++ [(AO.list (rowsA lg),l)]).set M.length (.list (rowsA lg ++ [rowA ((ord.take k ++ [(w : Int)]) ++ ord.drop k)]),l + 1)⟩ : St)) = _
  rw [last_set]
  unfold OH rowsA
  rw [List.map_append]; rfl
theorem turn227 (hN : NOk N) (hw : w < 4) (ho : ord.length ≤ 100) (hg : lg.length ≤ 800) : ∃ l',b227k ⟨OE N x1 w M.length (some (rowA ord)) (some (.int (k : Int))),OH M lg l⟩ = some (.next,⟨OE N x1 w M.length (some (rowA ord)) (some (.int (k : Int))),OH M (kO N w ord lg k) l'⟩) := by
 have hc : ((oNeed ⟨OE N x1 w M.length (some (rowA ord)) (some (.int (k : Int))),OH M lg l⟩ >>= fun q => some (AV.fl q.1,q.2)) >>= fun p => fListF (fun σ => some ([],σ)) p.2 >>= fun q => (cmpV CmpOp.Eq p.1 q.1 q.2).map fun b => (b,q.2)) = some (okAt N w ord k,⟨OE N x1 w M.length (some (rowA ord)) (some (.int (k : Int))),OH M lg l⟩) := by
  refine bo (bo (need_ok hN hw ho) rfl) (bo (a := (.fl [],_)) rfl (mo ?_))
  show eqL (.fl _) (.fl []) _ = _
  unfold eqL intsOf
  dsimp only
  rw [toInts_map]; rfl
 cases h : okAt N w ord k with
 | true =>
  refine ⟨l + 1,sq (bo (hc.trans (by rw [h])) (ifT rfl (sq (app_ok ho hg) rfl))) ?_⟩
  unfold kO; rw [if_pos h]
 | false =>
  refine ⟨l,sq (bo (hc.trans (by rw [h])) (ifF rfl rfl)) ?_⟩
  unfold kO; rw [if_neg (by rw [h]; decide)]
noncomputable def okO (ord : List Int) (lg : List (List Int)) : Bool := decide (ord.length ≤ 100) && decide (lg.length ≤ 700)
noncomputable def insO (N : Nat → List Int) (w : Nat) (lg : List (List Int)) (ord : List Int) : Option (List (List Int)) := if okO ord lg = true then some ((List.range (w + 1)).foldl (kO N w ord) lg) else none
noncomputable def foldO (N : Nat → List Int) (w : Nat) : List (List Int) → List (List Int) → Option (List (List Int))
 | lg,[] => some lg
 | lg,r :: rs => insO N w lg r >>= fun lg => foldO N w lg rs
theorem kO_len {ks : List Nat} : ∀ {lg : List (List Int)},(ks.foldl (kO N w ord) lg).length ≤ lg.length + ks.length := by
 induction ks with
 | nil => intro lg; exact Nat.le_refl _
 | cons k ks ih =>
  intro lg
  rw [List.foldl_cons]
  refine Nat.le_trans ih ?_
  have : (kO N w ord lg k).length ≤ lg.length + 1 := by
   unfold kO; split
   ·rw [List.length_append,List.length_singleton]; exact Nat.le_refl _
   ·exact Nat.le_add_right _ _
  rw [List.length_cons]; lia
theorem loopK (hN : NOk N) (hw : w < 4) (ho : ord.length ≤ 100) : ∀ (ks : List Nat) (lg : List (List Int)) (l : Nat) (x5 : Option AV),lg.length + ks.length ≤ 800 →
  ∃ l' x5',forS (fun v σ => some (setE 5 v σ)) b227k (fun _ => true) (ks.map fun (k : Nat) => AV.int (k : Int)) ⟨OE N x1 w M.length (some (rowA ord)) x5,OH M lg l⟩ = some (.next,⟨OE N x1 w M.length (some (rowA ord)) x5',OH M (ks.foldl (kO N w ord) lg) l'⟩)
 | [],lg,l,x5,_ => ⟨l,x5,rfl⟩
 | k :: ks,lg,l,x5,h => by
  rw [List.length_cons] at h
  obtain ⟨l1,e1⟩ := turn227 (N := N) (w := w) (ord := ord) (M := M) (lg := lg) (l := l) (k := k) (x1 := x1) hN hw ho (by lia)
  have hk : (kO N w ord lg k).length ≤ lg.length + 1 := kO_len (ks := [k])
  obtain ⟨l',x5',e2⟩ := loopK hN hw ho ks (kO N w ord lg k) l1 (some (.int (k : Int))) (by lia)
  exact ⟨l',x5',fC rfl e1 rfl e2⟩
noncomputable def b227o : St → Option (AF × St) := fSeq (fRange (fun σ => fName 2 σ >>= fun p => (some (AV.int 1,p.2) : Option (AV × St)) >>= fun q => (binV Operator.Add p.1 q.1 q.2).map fun v => (v,q.2)) (fun v σ => some (setE 5 v σ)) b227k) fun σ => some (AF.next,σ)
theorem insO_ok (hN : NOk N) (hw : w < 4) {lg' : List (List Int)} (h : insO N w lg ord = some lg') {x5 : Option AV} : ∃ l' x5',b227o ⟨OE N x1 w M.length (some (rowA ord)) x5,OH M lg l⟩ = some (.next,⟨OE N x1 w M.length (some (rowA ord)) x5',OH M lg' l'⟩) := by
 unfold insO at h
 split at h
 ·rename_i hc
  cases h
  unfold okO at hc
  rw [Bool.and_eq_true] at hc
  obtain ⟨l',x5',e⟩ := loopK (M := M) (x1 := x1) hN hw (of_decide_eq_true hc.1) (List.range (w + 1)) lg l x5 (by have := of_decide_eq_true hc.2; rw [List.length_range]; lia)
  refine ⟨l',x5',sq (f := fRange _ _ _) (bo (a := (.int ((w : Int) + 1),⟨OE N x1 w M.length (some (rowA ord)) x5,OH M lg l⟩)) rfl ?_) rfl⟩
  show (if 0 ≤ (w : Int) + 1 ∧ (w : Int) + 1 ≤ 1000 then forS (fun v σ => some (setE 5 v σ)) b227k (fun _ => true) (rangeL ((w : Int) + 1).toNat) _ else none) = _
  rw [if_pos ⟨by exact Int.natCast_nonneg _,by lia⟩,show ((w : Int) + 1).toNat = w + 1 by exact rfl]
  exact e
 ·cases h
theorem loopO (hN : NOk N) (hw : w < 4) {i k : Nat} {xs : List AV} (hi : M[i]? = some (.list xs,k)) : ∀ (rs lg : List (List Int)) (l : Nat) (x4 x5 : Option AV) (lg' : List (List Int)),foldO N w lg rs = some lg' →
  ∃ l' x4' x5',forS (fun v σ => some (setE 4 v σ)) b227o (verAt i k) (rowsA rs) ⟨OE N x1 w M.length x4 x5,OH M lg l⟩ = some (.next,⟨OE N x1 w M.length x4' x5',OH M lg' l'⟩)
 | [],lg,l,x4,x5,lg',h => by cases h; exact ⟨l,x4,x5,rfl⟩
 | r :: rs,lg,l,x4,x5,lg',h => by
  obtain ⟨lg1,e1,e2⟩ := bS h
  obtain ⟨l1,y5,t⟩ := insO_ok (M := M) (l := l) (x1 := x1) (x5 := x5) hN hw e1
  obtain ⟨l',x4',x5',e3⟩ := loopO hN hw hi rs lg1 l1 (some (rowA r)) y5 lg' e2
  refine ⟨l',x4',x5',fC (σ1 := ⟨OE N x1 w M.length (some (rowA r)) x5,OH M lg l⟩) rfl t ?_ e3⟩
  have : (⟨OE N x1 w M.length (some (rowA r)) y5,OH M lg1 l1⟩ : St).heap[i]? = some (.list xs,k) := by
   show (M ++ _)[i]? = _
   rw [List.getElem?_append_left (List.getElem?_eq_some_iff.mp hi).1]; exact hi
  unfold verAt; simp only [this]
  simp
noncomputable def s227 : St → Option (AF × St) := fSeq (fun σ => fList (fun σ => some ([],σ)) σ >>= fun p => some (AF.next,setE 3 p.1 p.2)) (fSeq (fFor (fName 1) (fun v σ => some (setE 4 v σ)) b227o) (fSeq (fun σ => fName 3 σ >>= fun p => some (AF.next,setE 1 p.1 p.2)) fun σ => some (AF.next,σ)))
theorem step227 (hN : NOk N) (hw : w < 4) {i k : Nat} {rs rs' : List (List Int)} (hi : M[i]? = some (.list (rowsA rs),k)) (h : foldO N w [] rs = some rs') {x3 x4 x5 : Option AV} :
  ∃ j x4' x5' M',s227 ⟨[some (ndA N),some (.ref i),some (.int (w : Int)),x3,x4,x5],M⟩ = some (.next,⟨[some (ndA N),some (.ref j),some (.int (w : Int)),some (.ref j),x4',x5'],M'⟩) ∧ ∃ k',M'[j]? = some (.list (rowsA rs'),k') := by
 obtain ⟨l',x4',x5',e⟩ := loopO (N := N) (w := w) (x1 := some (.ref i)) (M := M) hN hw hi rs [] 0 x4 x5 rs' h
 refine ⟨M.length,x4',x5',M ++ [(.list (rowsA rs'),l')],sq (σ' := ⟨OE N (some (.ref i)) w M.length x4 x5,OH M [] 0⟩) rfl (sq (f := fFor _ _ _) (bo rfl (bo (a := (rowsA rs,verAt i k)) ?_ e)) (sq rfl rfl)),l',last_get⟩
 have : (⟨OE N (some (.ref i)) w M.length x4 x5,OH M [] 0⟩ : St).heap[i]? = some (.list (rowsA rs),k) := by
  show (M ++ _)[i]? = _
  rw [List.getElem?_append_left (List.getElem?_eq_some_iff.mp hi).1]; exact hi
 show itemsOf (.ref i) _ = _
 unfold itemsOf; simp only [this]
noncomputable def oP (N : Nat → List Int) : Option (List (List Int)) := foldO N 1 [] [[0]] >>= fun a => foldO N 2 [] a >>= fun b => foldO N 3 [] b
theorem flat_ndA : flat 8 (ndA N) = true := by
 show ((((N 0).map AV.int).all (flat 6)) && ((((N 1).map AV.int).all (flat 6)) && ((((N 2).map AV.int).all (flat 6)) && ((((N 3).map AV.int).all (flat 6)) && true)))) = true
 rw [flat_ints 5,flat_ints 5,flat_ints 5,flat_ints 5]; rfl
theorem orders_eq (hN : NOk N) {rs : List (List Int)} (h : oP N = some rs) {σ : St} : w227.1 [ndA N] σ = some (.fl (rowsA rs),σ) := by
 obtain ⟨a,e1,h⟩ := bS h
 obtain ⟨b,e2,e3⟩ := bS h
 obtain ⟨j1,a1,b1,M1,f1,k1,g1⟩ := step227 (N := N) (w := 1) (M := [(.list [.fl [.int 0]],0)]) (i := 0) (k := 0) (x3 := none) (x4 := none) (x5 := none) hN (by decide) (rs := [[0]]) rfl e1
 obtain ⟨j2,a2,b2,M2,f2,k2,g2⟩ := step227 (N := N) (w := 2) (M := M1) (x3 := some (.ref j1)) (x4 := a1) (x5 := b1) hN (by decide) g1 e2
 obtain ⟨j3,a3,b3,M3,f3,k3,g3⟩ := step227 (N := N) (w := 3) (M := M2) (x3 := some (.ref j2)) (x4 := a2) (x5 := b2) hN (by decide) g2 e3
 have lp : forS (fun v σ => some (setE 2 v σ)) s227 (fun _ => true) (rangeL2 1 4) ⟨[some (ndA N),some (.ref 0),none,none,none,none],[(.list [.fl [.int 0]],0)]⟩ = some (.next,⟨[some (ndA N),some (.ref j3),some (.int 3),some (.ref j3),a3,b3],M3⟩) :=
  fC rfl f1 rfl (fC rfl f2 rfl (fC rfl f3 rfl rfl))
 refine pure_eq (σ' := ⟨_,M3⟩) (by simp only [List.all_cons,List.all_nil,Bool.and_true,flat_ndA]; rfl) (sq rfl (sq (f := fRange2 _ _ _ _) (bo rfl (bo rfl lp)) (sqR rfl))) ?_
 show frz _ 8 (.ref j3) = _
 rw [frz_ref g3]
 rw [allO_rows]; rfl
end
noncomputable def Bs (N : Nat → List Int) : Nat → List (List Int)
 | 0 => []
 | m + 1 => Bs N m ++ [(m : Int) :: (N m).flatMap fun e => (Bs N m).getD e.toNat []]
theorem Bs_len {N : Nat → List Int} : ∀ m,(Bs N m).length = m
 | 0 => rfl
 | m + 1 => by show (Bs N m ++ _).length = _; rw [List.length_append,Bs_len m]; rfl
noncomputable def refsA (m : Nat) : List AV := (List.range m).map fun (i : Nat) => AV.ref (i + 1)
noncomputable def b232i : St → Option (AF × St) := fSeq (fun σ => getE 3 σ >>= fun o => (fName 1 σ >>= fun p => fName 4 p.2 >>= fun q => subV p.1 q.1 q.2) >>= fun p => iaddV Operator.Add o p.1 p.2 >>= fun q => some (AF.next,setE 3 q.1 q.2)) fun σ => some (AF.next,σ)
theorem sub_list {σ : St} {n k : Nat} {xs : List AV} {i : Int} {v : AV} (h : σ.heap[n]? = some (.list xs,k)) (hi : idx xs i = some v) : subV (.ref n) (.int i) σ = some (v,σ) := by
 unfold subV; simp only [h]; rw [hi]; rfl
section
variable {N : Nat → List Int} {C : List (AO × Nat)} {m v z : Nat} {f : List Int} {bs : List (List Int)} {x4 : Option AV}
noncomputable def TE (N : Nat → List Int) (m j : Nat) (x4 : Option AV) : List (Option AV) := [some (ndA N),some (.ref 0),some (.int (m : Int)),some (.ref j),x4]
noncomputable def TH (m v : Nat) (C : List (AO × Nat)) (f : List Int) (z : Nat) : List (AO × Nat) := (.list (refsA m),v) :: (C ++ [(.list (f.map .int),z)])
theorem cell_at (hC : C.map (·.1) = bs.map fun b => AO.list (b.map .int)) {i : Nat} (hi : i < bs.length) : ∃ k,C[i]? = some (.list ((bs.getD i []).map .int),k) := by
 have h1 : (C.map (·.1))[i]? = some (.list ((bs.getD i []).map .int)) := by
  rw [hC,List.getElem?_map,List.getD_eq_getElem?_getD,List.getElem?_eq_getElem hi]; rfl
 rw [List.getElem?_map] at h1
 obtain ⟨a,h2,h3⟩ := Option.map_eq_some_iff.mp h1
 obtain ⟨x,k⟩ := a
 cases h3
 exact ⟨k,h2⟩
theorem turn232 (hC : C.map (·.1) = bs.map fun b => AO.list (b.map .int)) (hl : C.length = m) (hb : bs.length = m) {e : Nat} (he : e < m) (hm : m ≤ 4) (hf : f.length + (bs.getD e []).length < 1000) :
  b232i ⟨TE N m (C.length + 1) (some (.int (e : Int))),TH m v C f z⟩ = some (.next,⟨TE N m (C.length + 1) (some (.int (e : Int))),TH m v C (f ++ bs.getD e []) (z + 1)⟩) := by
 obtain ⟨k,hk⟩ := cell_at hC (i := e) (by lia)
 have g1 : (⟨TE N m (C.length + 1) (some (.int (e : Int))),TH m v C f z⟩ : St).heap[C.length + 1]? = some (.list (f.map .int),z) := last_get
 have g2 : (⟨TE N m (C.length + 1) (some (.int (e : Int))),TH m v C f z⟩ : St).heap[e + 1]? = some (.list ((bs.getD e []).map .int),k) := by
  show (C ++ _)[e]? = _
  rw [List.getElem?_append_left (List.getElem?_eq_some_iff.mp hk).1]; exact hk
 have k1 : (fName 1 (⟨TE N m (C.length + 1) (some (.int (e : Int))),TH m v C f z⟩ : St) >>= fun p => fName 4 p.2 >>= fun q => subV p.1 q.1 q.2) = some (.ref (e + 1),⟨TE N m (C.length + 1) (some (.int (e : Int))),TH m v C f z⟩) := by
  refine bo rfl (bo rfl ?_)
  refine sub_list (k := v) rfl ?_
  unfold idx refsA
  rw [if_pos (by exact Int.natCast_nonneg _),if_pos (by lia),Int.toNat_natCast,List.getElem?_map,List.getElem?_range he]; rfl
 have k2 : iaddV .Add (.ref (C.length + 1)) (.ref (e + 1)) ⟨TE N m (C.length + 1) (some (.int (e : Int))),TH m v C f z⟩ = some (.ref (C.length + 1),⟨TE N m (C.length + 1) (some (.int (e : Int))),TH m v C (f ++ bs.getD e []) (z + 1)⟩) := by
  unfold iaddV
  simp only [g1]
  refine bo (a := (bs.getD e []).map .int) ?_ ?_
  ·unfold spreadV; simp only [g2]
   rw [if_pos (by rw [List.length_map]; lia)]
  ·rw [if_pos (by rw [List.length_map,List.length_map]; omega)]
   show some (AV.ref (C.length + 1),(⟨_,(.list (refsA m),v) :: (C ++ [(AO.list (f.map .int),z)]).set C.length (.list (f.map .int ++ (bs.getD e []).map .int),z + 1)⟩ : St)) = _
   rw [last_set]
   unfold TH
   rw [List.map_append]
 exact sq (bo (a := .ref (C.length + 1)) rfl (bo k1 (bo k2 rfl))) rfl
theorem loop232 (hC : C.map (·.1) = bs.map fun b => AO.list (b.map .int)) (hl : C.length = m) (hb : bs.length = m) (hm : m ≤ 4) {B : Nat} (hB : ∀ b ∈ bs,b.length ≤ B) : ∀ (es f : List Int) (z : Nat) (x4 : Option AV),(∀ e ∈ es,0 ≤ e ∧ e < (m : Int)) → f.length + es.length * B < 1000 →
  ∃ z' x4',forS (fun v σ => some (setE 4 v σ)) b232i (fun _ => true) (es.map .int) ⟨TE N m (C.length + 1) x4,TH m v C f z⟩ = some (.next,⟨TE N m (C.length + 1) x4',TH m v C (f ++ es.flatMap fun e => bs.getD e.toNat []) z'⟩)
 | [],f,z,x4,_,_ => ⟨z,x4,by rw [List.flatMap_nil,List.append_nil]; rfl⟩
 | e :: es,f,z,x4,h4,hf => by
  obtain ⟨n,rfl⟩ : ∃ n : Nat,e = n := ⟨e.toNat,by have := (h4 e (.head _)).1; exact ara ‹_›⟩
  have hn : n < m := by have := (h4 _ (.head _)).2; lia
  have hbl : (bs.getD n []).length ≤ B := by
   rw [List.getD_eq_getElem?_getD,List.getElem?_eq_getElem (by lia)]
   exact hB _ (List.getElem_mem _)
  rw [List.length_cons,Nat.succ_mul] at hf
  have t := turn232 (N := N) (v := v) (z := z) (f := f) hC hl hb hn hm (by omega)
  obtain ⟨z',x4',e2⟩ := loop232 hC hl hb hm hB es (f ++ bs.getD n []) (z + 1) (some (.int (n : Int))) (fun y hy => h4 y (.tail _ hy)) (by rw [List.length_append]; omega)
  refine ⟨z',x4',fC rfl t rfl (e2.trans ?_)⟩
  rw [List.flatMap_cons,List.append_assoc,Int.toNat_natCast]
noncomputable def b232 : St → Option (AF × St) := fSeq (fun σ => fList (fCons (fName 2) fun σ => some ([],σ)) σ >>= fun p => some (AF.next,setE 3 p.1 p.2))
 (fSeq (fFor (fun σ => fName 0 σ >>= fun p => fName 2 p.2 >>= fun q => subV p.1 q.1 q.2) (fun v σ => some (setE 4 v σ)) b232i)
 (fSeq (fun σ => fM1 (fName 1) (fName 3) isL appendV σ >>= fun p => some (AF.next,p.2)) fun σ => some (AF.next,σ)))
theorem refsA_succ : refsA (m + 1) = refsA m ++ [.ref (m + 1)] := by
 unfold refsA; rw [List.range_succ,List.map_append]; rfl
theorem step232 (hN : NOk N) (hm : m < 4) (hC : C.map (·.1) = (Bs N m).map fun b => AO.list (b.map .int)) {B : Nat} (hB : ∀ b ∈ Bs N m,b.length ≤ B) (hB2 : B ≤ 43) {x3 x4 : Option AV} :
  ∃ v' x3' x4' C',b232 ⟨[some (ndA N),some (.ref 0),some (.int (m : Int)),x3,x4],(.list (refsA m),v) :: C⟩ = some (.next,⟨[some (ndA N),some (.ref 0),some (.int (m : Int)),x3',x4'],(.list (refsA (m + 1)),v') :: C'⟩) ∧ C'.map (·.1) = (Bs N (m + 1)).map (fun b => AO.list (b.map .int)) ∧ ∀ b ∈ Bs N (m + 1),b.length ≤ 1 + 6 * B := by
 have hl : C.length = m := by
  have := congrArg List.length hC
  rw [List.length_map,List.length_map,Bs_len] at this; exact this
 have hNl := hN.l m
 have hmul : (N m).length * B ≤ 6 * B := Nat.mul_le_mul_right _ hNl
 obtain ⟨z',x4',e⟩ := loop232 (N := N) (v := v) (C := C) hC hl (Bs_len m) (by exact Nat.le_of_lt ‹_›) hB (N m) [(m : Int)] 0 x4 (fun e he => hN.g m e he) (by rw [List.length_singleton]; lia)
 refine ⟨v + 1,some (.ref (C.length + 1)),x4',C ++ [(.list ((((m : Int) :: (N m).flatMap fun e => (Bs N m).getD e.toNat [])).map .int),z')],sq (σ' := ⟨TE N m (C.length + 1) x4,TH m v C [(m : Int)] 0⟩) ?_ (sq (f := fFor _ _ _) (bo (a := (rowA (N m),⟨TE N m (C.length + 1) x4,TH m v C [(m : Int)] 0⟩)) ?_ (bo rfl e)) (sq (bo (m1 rfl rfl rfl (apE (xs := refsA m) rfl ?_)) rfl) ?_)),?_,?_⟩
 ·rfl
 ·obtain rfl | rfl | rfl | rfl := four (w := m) (by assumption)
  all_goals rfl
 ·unfold refsA; rw [List.length_map,List.length_range]; lia
 ·rw [refsA_succ,← hl]; rfl
 ·show (C ++ _).map (·.1) = (Bs N m ++ _).map _
  rw [List.map_append,List.map_append,hC]; rfl
 ·intro b hb
  rcases mA hb with hb | hb
  ·have := hB b hb; lia
  ·obtain rfl := List.mem_singleton.mp hb
   rw [List.length_cons]
   have : ((N m).flatMap fun e => (Bs N m).getD e.toNat []).length ≤ (N m).length * B := by
    clear hmul e hNl
    induction N m with
    | nil => exact Nat.zero_le _
    | cons a r ih =>
     rw [List.flatMap_cons,List.length_append,List.length_cons,Nat.succ_mul]
     have : ((Bs N m).getD a.toNat []).length ≤ B := by
      rw [List.getD_eq_getElem?_getD]
      cases h : (Bs N m)[a.toNat]? with
      | none => exact Nat.zero_le _
      | some x => exact hB x (List.mem_of_getElem? h)
     omega
   grind
noncomputable def tiedR (bs : List (List Int)) (w v : Nat) : Bool := (bs.getD w []).any (· == (v : Int)) || (bs.getD v []).any (· == (w : Int))
noncomputable def tiedP (bs : List (List Int)) : List (List Bool) := (List.range 4).map fun w => (List.range 4).map fun v => tiedR bs w v
noncomputable def boolsA (r : List Bool) : AV := .fl (r.map .bool)
noncomputable def tSrc : St → Option (List AV × St) := fun σ => (some (AV.int 4,σ) : Option (AV × St)) >>= fun p => match p.1 with
 | AV.int n => if 0 ≤ n ∧ n ≤ 1000 then some (rangeL n.toNat,p.2) else none
 | _ => none
noncomputable def tEl : St → Option (AV × St) := fun σ => (fName 1 σ >>= fun p => (fName 2 p.2 >>= fun p => fName 3 p.2 >>= fun q => subV p.1 q.1 q.2) >>= fun q => (cmpV CmpOp.In p.1 q.1 q.2).map fun b => (AV.bool b,q.2)) >>= fun p => truthV p.1 p.2 >>= fun b => if b = true then some p else
 fName 3 p.2 >>= fun p => (fName 2 p.2 >>= fun p => fName 1 p.2 >>= fun q => subV p.1 q.1 q.2) >>= fun q => (cmpV CmpOp.In p.1 q.1 q.2).map fun b => (AV.bool b,q.2)
noncomputable def tRow : St → Option (AV × St) := fun σ => fComp [none,none,some 3,some 1] tSrc (fun v σ => some (setE 1 v σ)) (fun σ => some (true,σ)) tEl σ >>= fun q => some (AV.fl q.1,q.2)
noncomputable def tAll : St → Option (AV × St) := fun σ => fComp [none,none,none,some 1] tSrc (fun v σ => some (setE 1 v σ)) (fun σ => some (true,σ)) tRow σ >>= fun q => some (AV.fl q.1,q.2)
theorem in_below (hC : C.map (·.1) = bs.map fun b => AO.list (b.map .int)) (hb : bs.length = 4) {i : Nat} (hi : i < 4) {n : Int} {env : List (Option AV)} : cmpV .In (.int n) (.ref (i + 1)) ⟨env,(.list (refsA 4),v) :: C⟩ = some ((bs.getD i []).any (· == n)) := by
 obtain ⟨k,hk⟩ := cell_at hC (i := i) (by lia)
 have g : (⟨env,(.list (refsA 4),v) :: C⟩ : St).heap[i + 1]? = some (.list ((bs.getD i []).map .int),k) := hk
 show hasV (.int n) (.ref (i + 1)) _ = _
 unfold hasV intsOf
 simp only [g]
 rw [toInts_map]
theorem below_at {i : Nat} (hi : i < 4) {env : List (Option AV)} : subV (.ref 0) (.int (i : Int)) ⟨env,(.list (refsA 4),v) :: C⟩ = some (.ref (i + 1),⟨env,(.list (refsA 4),v) :: C⟩) := by
 refine sub_list (k := v) rfl ?_
 obtain rfl | rfl | rfl | rfl := four (w := i) (by assumption)
 all_goals rfl
theorem range4 {x : AV} (h : x ∈ rangeL 4) : ∃ i : Nat,i < 4 ∧ x = .int (i : Int) := by
 obtain ⟨i,hi,rfl⟩ := List.mem_map.mp h
 exact ⟨i,List.mem_range.mp hi,rfl⟩
theorem row_ok (hC : C.map (·.1) = bs.map fun b => AO.list (b.map .int)) (hb : bs.length = 4) {w : Nat} (hw : w < 4) {a b : Option AV} : tRow ⟨[a,some (.int (w : Int)),b,some (.ref 0)],(.list (refsA 4),v) :: C⟩ = some (boolsA ((List.range 4).map fun v => tiedR bs w v),⟨[a,some (.int (w : Int)),b,some (.ref 0)],(.list (refsA 4),v) :: C⟩) := by
 obtain ⟨σ',e⟩ := comp_map (ta := fun v σ => some (setE 1 v σ)) (fi := fun σ => some (true,σ)) (fe := tEl) (fun x => match x with | .int v => .bool (tiedR bs w v.toNat) | _ => .none) (fun σ => ∃ x y,σ = ⟨[x,y,some (.ref 0),some (.int (w : Int))],(.list (refsA 4),v) :: C⟩) (rangeL 4) [] ⟨[none,none,some (.ref 0),some (.int (w : Int))],(.list (refsA 4),v) :: C⟩ ⟨none,none,rfl⟩ (by
   rintro y hy σ ⟨c,d,rfl⟩
   obtain ⟨i,hi,rfl⟩ := range4 hy
   refine ⟨⟨[c,some (.int (i : Int)),some (.ref 0),some (.int (w : Int))],(.list (refsA 4),v) :: C⟩,_,⟨[c,some (.int (i : Int)),some (.ref 0),some (.int (w : Int))],(.list (refsA 4),v) :: C⟩,rfl,rfl,?_,c,_,rfl⟩
   refine bo (a := (.bool ((bs.getD w []).any (· == (i : Int))),_)) (bo rfl (bo (bo rfl (bo rfl (below_at hw))) (mo (in_below hC hb hw)))) (bo (a := (bs.getD w []).any (· == (i : Int))) rfl ?_)
   cases h : (bs.getD w []).any (· == (i : Int)) with
   | true =>
    refine ifT rfl ?_
    show some (AV.bool true,_) = some (AV.bool (tiedR bs w i),_)
    unfold tiedR; rw [h]; rfl
   | false =>
    refine ifF rfl (bo rfl (bo (bo rfl (bo rfl (below_at hi))) (mo (a := (bs.getD i []).any (· == (w : Int))) ?_ |>.trans ?_)))
    ·exact in_below hC hb hi
    ·show some (AV.bool _,_) = some (AV.bool (tiedR bs w i),_)
     unfold tiedR; rw [h]; rfl)
 refine bo (fcomp_eq (σ' := σ') rfl (xs := rangeL 4) rfl (by decide) e) ?_
 rfl
theorem all_ok (hC : C.map (·.1) = bs.map fun b => AO.list (b.map .int)) (hb : bs.length = 4) {a x2 x3 x4 : Option AV} : tAll ⟨[a,some (.ref 0),x2,x3,x4],(.list (refsA 4),v) :: C⟩ = some (.fl ((tiedP bs).map boolsA),⟨[a,some (.ref 0),x2,x3,x4],(.list (refsA 4),v) :: C⟩) := by
 obtain ⟨σ',e⟩ := comp_map (ta := fun v σ => some (setE 1 v σ)) (fi := fun σ => some (true,σ)) (fe := tRow) (fun x => match x with | .int w => boolsA ((List.range 4).map fun v => tiedR bs w.toNat v) | _ => .none) (fun σ => ∃ x y z,σ = ⟨[x,y,z,some (.ref 0)],(.list (refsA 4),v) :: C⟩) (rangeL 4) [] ⟨[none,none,none,some (.ref 0)],(.list (refsA 4),v) :: C⟩ ⟨none,none,none,rfl⟩ (by
   rintro y hy σ ⟨c,d,f,rfl⟩
   obtain ⟨i,hi,rfl⟩ := range4 hy
   exact ⟨⟨[c,some (.int (i : Int)),f,some (.ref 0)],(.list (refsA 4),v) :: C⟩,_,⟨[c,some (.int (i : Int)),f,some (.ref 0)],(.list (refsA 4),v) :: C⟩,rfl,rfl,row_ok hC hb hi,c,_,f,rfl⟩)
 refine bo (fcomp_eq (σ' := σ') rfl (xs := rangeL 4) rfl (by decide) e) ?_
 rfl
theorem allO_bools {H : List (AO × Nat)} {k : Nat} (r : List Bool) : allO (frz H (k + 1)) (r.map AV.bool) = some (r.map AV.bool) := by
 induction r with
 | nil => rfl
 | cons n ns ih => show (frz H (k + 1) (.bool n) >>= fun y => allO (frz H (k + 1)) (ns.map AV.bool) >>= fun ys => some (y :: ys)) = _; rw [ih]; rfl
theorem allO_boolss {H : List (AO × Nat)} {k : Nat} (rs : List (List Bool)) : allO (frz H (k + 2)) (rs.map boolsA) = some (rs.map boolsA) := by
 induction rs with
 | nil => rfl
 | cons r rs ih =>
  show (((allO (frz H (k + 1)) (r.map .bool)).map AV.fl) >>= fun y => allO (frz H (k + 2)) (rs.map boolsA) >>= fun ys => some (y :: ys)) = _
  rw [allO_bools,ih]; rfl
theorem tied_eq (hN : NOk N) {σ : St} : w232.1 [ndA N] σ = some (.fl ((tiedP (Bs N 4)).map boolsA),σ) := by
 obtain ⟨v0,a0,b0,C0,e0,h0,l0⟩ := step232 (N := N) (m := 0) (v := 0) (C := []) (B := 0) (x3 := none) (x4 := none) hN (by decide) rfl (fun b hb => nomatch hb) (by decide)
 obtain ⟨v1,a1,b1,C1,e1,h1,l1⟩ := step232 (N := N) (m := 1) (v := v0) (C := C0) (B := 1) (x3 := a0) (x4 := b0) hN (by decide) h0 l0 (by decide)
 obtain ⟨v2,a2,b2,C2,e2,h2,l2⟩ := step232 (N := N) (m := 2) (v := v1) (C := C1) (B := 7) (x3 := a1) (x4 := b1) hN (by decide) h1 l1 (by decide)
 obtain ⟨v3,a3,b3,C3,e3,h3,l3⟩ := step232 (N := N) (m := 3) (v := v2) (C := C2) (B := 43) (x3 := a2) (x4 := b2) hN (by decide) h2 l2 (by decide)
 have lp : forS (fun v σ => some (setE 2 v σ)) b232 (fun _ => true) (rangeL 4) ⟨[some (ndA N),some (.ref 0),none,none,none],(.list (refsA 0),0) :: []⟩ = some (.next,⟨[some (ndA N),some (.ref 0),some (.int 3),a3,b3],(.list (refsA 4),v3) :: C3⟩) :=
  fC rfl e0 rfl (fC rfl e1 rfl (fC rfl e2 rfl (fC rfl e3 rfl rfl)))
 refine pure_eq (σ' := ⟨_,(.list (refsA 4),v3) :: C3⟩) (by simp only [List.all_cons,List.all_nil,Bool.and_true,flat_ndA]; rfl) (sq rfl (sq (f := fRange _ _ _) (bo rfl lp) (sqR (bo (all_ok h3 (Bs_len 4)) rfl)))) ?_
 show (allO (frz _ 7) _).map AV.fl = _
 rw [allO_boolss]; rfl
end
noncomputable def Same (N N' : Nat → List Int) : Prop := ∀ w e,e ∈ N w ↔ e ∈ N' w
section
variable {N N' : Nat → List Int}
theorem Same.nil (h : Same N N') (w : Nat) : N w = [] ↔ N' w = [] := by
 rw [List.eq_nil_iff_forall_not_mem,List.eq_nil_iff_forall_not_mem]
 exact ⟨fun q x hx => q x ((h w x).mpr hx),fun q x hx => q x ((h w x).mp hx)⟩
theorem Same.zeros (h : Same N N') : zerosP N = zerosP N' := by
 have e : ∀ w,(((N w).length : Int) == 0) = (((N' w).length : Int) == 0) := fun w => by
  have := h.nil w
  rw [Bool.eq_iff_iff,beq_iff_eq,beq_iff_eq]
  rw [show ((N w).length : Int) = 0 ↔ N w = [] by rw [← List.length_eq_zero_iff]; simp,show ((N' w).length : Int) = 0 ↔ N' w = [] by rw [← List.length_eq_zero_iff]; omega]
  exact this
 unfold zerosP
 simp only [List.filter_cons,List.filter_nil,e]
 cases (((N' 0).length : Int) == 0) <;> cases (((N' 1).length : Int) == 0) <;> cases (((N' 2).length : Int) == 0) <;> cases (((N' 3).length : Int) == 0) <;> rfl
theorem Same.valid (h : Same N N') {pre : List Int} (hv : ValidP N pre) : ValidP N' pre := fun w hw => ⟨(hv w hw).1,(hv w hw).2.1,fun e he => (hv w hw).2.2 e ((h _ e).mpr he)⟩
theorem rd_iff {pre : List Int} {k : Int} {w : Nat} (hv : ValidP N pre) (hk : k ∉ pre) : (cn N k w ≠ 0 ∧ stat N pre w = (cn N k w : Int)) ↔ (k ∈ N w ∧ ∀ e ∈ N w,e ∈ pre ++ [k]) := by
 have hps := pend_snoc (N := N) hk w
 have hc : cn N k w ≠ 0 ↔ k ∈ N w := by
  constructor
  ·intro q
   by_cases z : k ∈ N w
   ·exact z
   ·exact absurd (cn_zero.mpr z) q
  ·intro q z
   exact cn_zero.mp z q
 constructor
 ·rintro ⟨h1,h2⟩
  obtain ⟨_,h4,_⟩ := stat_need hv hk h1
  exact ⟨hc.mp h1,pend_zero.mp (by lia)⟩
 ·rintro ⟨h1,h2⟩
  have h3 := hc.mpr h1
  obtain ⟨_,h4,_⟩ := stat_need hv hk h3
  have := pend_zero.mpr h2
  exact ⟨h3,by simp_all⟩
theorem Same.rd (h : Same N N') {pre : List Int} {k : Int} (hv : ValidP N pre) (hk : k ∉ pre) : rdP N pre k = rdP N' pre k := by
 unfold rdP
 congr 1
 refine List.filter_congr fun w _ => ?_
 rw [decide_eq_decide,rd_iff hv hk,rd_iff (h.valid hv) hk]
 exact ⟨fun q => ⟨(h w k).mp q.1,fun e he => q.2 e ((h w e).mpr he)⟩,fun q => ⟨(h w k).mpr q.1,fun e he => q.2 e ((h w e).mp he)⟩⟩
theorem Same.free (h : Same N N') (hg : GoodN N) : ∀ (run pre fs : List Int),FreeSpec N pre fs → ValidP N pre → okL N' pre fs run = true → okL N pre fs run = true ∧ freeL N pre fs run = freeL N' pre fs run
 | [],_,_,_,_,_ => ⟨rfl,rfl⟩
 | k :: r,pre,fs,hf,hv,ho => by
  unfold okL at ho
  rw [Bool.and_eq_true] at ho
  have hk : k ∈ fs := any_eq_mem.mp ho.1
  have hkp : k ∉ pre := ((hf.2 k).mp hk).2.2.1
  obtain ⟨f2,v2⟩ := free_step hg hv hf hk
  have hr := h.rd hv hkp
  obtain ⟨a,b⟩ := h.free hg r (pre ++ [k]) (fs.erase k ++ rdP N pre k) f2 v2 (by rw [hr]; exact ho.2)
  refine ⟨?_,?_⟩
  ·unfold okL
   rw [ho.1,a]; rfl
  ·show freeL N (pre ++ [k]) (fs.erase k ++ rdP N pre k) r = freeL N' (pre ++ [k]) (fs.erase k ++ rdP N' pre k) r
   rw [b,hr]
theorem free_same (h : Same N N') (hN : NOk N) (r : List Int) (ho : okL N' [] (zerosP N') r = true) (σ : St) : w217.1 [ndA N,rowA r] σ = some (rowA (freeL N' [] (zerosP N') r),σ) := by
 have hz := h.zeros
 rw [← hz] at ho
 obtain ⟨a,b⟩ := h.free hN.g r [] (zerosP N) zeros_spec valid_nil ho
 rw [← hz,← b]
 exact free_eq hN a
theorem runs_same (h : Same N N') (hN : NOk N) {rs : List (List Int)} (hr : runsP (okL N' [] (zerosP N')) (freeL N' [] (zerosP N')) = some rs) {σ : St} : w222.1 [ndA N] σ = some (.fl (rowsA rs),σ) := runs_eq (free_same h hN) flat_ndA hr
theorem Same.okAt (h : Same N N') (w : Nat) (ord : List Int) (k : Nat) : okAt N w ord k = okAt N' w ord k := by
 have e : ∀ N : Nat → List Int,Mine.okAt N w ord k = true ↔ ∀ e ∈ N w,(ord.take k).any (· == e) = true := fun N => by
  unfold Mine.okAt
  rw [beq_iff_eq,List.filter_eq_nil_iff]
  refine forall_congr' fun e => forall_congr' fun _ => ?_
  simp only [Bool.not_eq_true',Bool.not_eq_false]
 rw [Bool.eq_iff_iff,e,e]
 exact ⟨fun q x hx => q x ((h w x).mpr hx),fun q x hx => q x ((h w x).mp hx)⟩
theorem Same.foldO (h : Same N N') (w : Nat) : ∀ (rs lg : List (List Int)),foldO N w lg rs = foldO N' w lg rs
 | [],_ => rfl
 | r :: rs,lg => by
  have hk : kO N w r = kO N' w r := by
   funext lg k
   unfold kO
   rw [h.okAt]
  have hi : insO N w lg r = insO N' w lg r := by
   unfold insO
   rw [hk]
  show (insO N w lg r >>= fun lg => Mine.foldO N w lg rs) = (insO N' w lg r >>= fun lg => Mine.foldO N' w lg rs)
  rw [hi]
  congr 1
  funext lg
  exact h.foldO w rs lg
theorem orders_same (h : Same N N') (hN : NOk N) {rs : List (List Int)} (hr : oP N' = some rs) {σ : St} : w227.1 [ndA N] σ = some (.fl (rowsA rs),σ) := by
 refine orders_eq hN ?_
 unfold oP at hr ⊢
 simp only [h.foldO]
 exact hr
theorem Same.bs (h : Same N N') : ∀ (m i : Nat) (x : Int),x ∈ (Bs N m).getD i [] ↔ x ∈ (Bs N' m).getD i []
 | 0,i,x => Iff.rfl
 | m + 1,i,x => by
  show x ∈ (Bs N m ++ _).getD i [] ↔ x ∈ (Bs N' m ++ _).getD i []
  rw [List.getD_eq_getElem?_getD,List.getD_eq_getElem?_getD]
  by_cases hi : i < m
  ·rw [List.getElem?_append_left (by rw [Bs_len]; exact hi),List.getElem?_append_left (by rw [Bs_len]; exact hi),← List.getD_eq_getElem?_getD,← List.getD_eq_getElem?_getD]
   exact h.bs m i x
  ·rw [List.getElem?_append_right (by rw [Bs_len]; exact Nat.le_of_not_lt ‹_›),List.getElem?_append_right (by rw [Bs_len]; exact Nat.le_of_not_lt ‹_›),Bs_len,Bs_len]
   cases hd : i - m with
   | zero =>
    show x ∈ ((m : Int) :: _) ↔ x ∈ ((m : Int) :: _)
    rw [List.mem_cons,List.mem_cons,List.mem_flatMap,List.mem_flatMap]
    refine or_congr Iff.rfl ⟨?_,?_⟩
    ·rintro ⟨e,h1,h2⟩
     exact ⟨e,(h m e).mp h1,(h.bs m _ x).mp h2⟩
    ·rintro ⟨e,h1,h2⟩
     exact ⟨e,(h m e).mpr h1,(h.bs m _ x).mpr h2⟩
   | succ j => exact Iff.rfl
theorem tied_same (h : Same N N') (hN : NOk N) {σ : St} : w232.1 [ndA N] σ = some (.fl ((tiedP (Bs N' 4)).map boolsA),σ) := by
 rw [tied_eq hN]
 have : tiedP (Bs N 4) = tiedP (Bs N' 4) := by
  unfold tiedP tiedR
  refine List.map_congr_left fun w _ => List.map_congr_left fun v _ => ?_
  rw [Bool.eq_iff_iff,Bool.or_eq_true,Bool.or_eq_true,any_eq_mem,any_eq_mem,any_eq_mem,any_eq_mem,h.bs 4 w,h.bs 4 v]
 rw [this]
end
noncomputable def m1b (a : Nat) : Nat := if a = 0 then 0 else 1
theorem mem_rep {a : Nat} {k e : Int} : e ∈ List.replicate a k ↔ e ∈ List.replicate (m1b a) k := by
 rw [List.mem_replicate,List.mem_replicate]
 unfold m1b
 split
 ·rename_i h; subst h; simp
 ·rename_i h; simp [h]
theorem need_same (a b c d e f : Nat) : Same (needN a b c d e f) (needN (m1b a) (m1b b) (m1b c) (m1b d) (m1b e) (m1b f)) := by
 intro w x
 match w with
 | 0 => exact Iff.rfl
 | 1 => exact mem_rep
 | 2 =>
  show x ∈ _ ++ _ ↔ x ∈ _ ++ _
  rw [List.mem_append,List.mem_append]
  exact or_congr mem_rep mem_rep
 | 3 =>
  show x ∈ (_ ++ _) ++ _ ↔ x ∈ (_ ++ _) ++ _
  rw [List.mem_append,List.mem_append,List.mem_append,List.mem_append]
  exact or_congr (or_congr mem_rep mem_rep) mem_rep
 | n + 4 => exact Iff.rfl
theorem need_ok' {a b c d e f : Nat} (ha : a ≤ 2) (hb : b ≤ 2) (hc : c ≤ 2) (hd : d ≤ 2) (he : e ≤ 2) (hf : f ≤ 2) : NOk (needN a b c d e f) := by
 refine ⟨?_,?_,?_⟩
 ·intro w x hx
  match w,hx with
  | 0,hx => exact nomatch hx
  | 1,hx =>
   have := List.eq_of_mem_replicate hx
   subst this; decide
  | 2,hx =>
   rcases mA hx with hx | hx <;> (have := List.eq_of_mem_replicate hx; subst this; decide)
  | 3,hx =>
   rcases mA hx with hx | hx
   ·rcases mA hx with hx | hx <;> (have := List.eq_of_mem_replicate hx; subst this; decide)
   ·have := List.eq_of_mem_replicate hx; subst this; decide
  | n + 4,hx => exact nomatch hx
 ·intro w
  match w with
  | 0 => exact Nat.zero_le _
  | 1 => show (List.replicate a (0 : Int)).length ≤ 6; rw [List.length_replicate]; lia
  | 2 => show (List.replicate b (0 : Int) ++ List.replicate c 1).length ≤ 6; rw [List.length_append,List.length_replicate,List.length_replicate]; lia
  | 3 => show ((List.replicate d (0 : Int) ++ List.replicate e 1) ++ List.replicate f 2).length ≤ 6; rw [List.length_append,List.length_append,List.length_replicate,List.length_replicate,List.length_replicate]; lia
  | n + 4 => exact Nat.zero_le _
 ·show (List.replicate a (0 : Int)).length + (List.replicate b (0 : Int) ++ List.replicate c 1).length + ((List.replicate d (0 : Int) ++ List.replicate e 1) ++ List.replicate f 2).length ≤ 30
  rw [List.length_append,List.length_append,List.length_append,List.length_replicate,List.length_replicate,List.length_replicate,List.length_replicate,List.length_replicate,List.length_replicate]; lia
theorem rows203 {c : List Int} {v0 u1 u2 u3 v5 : Nat} {r1 r2 r3 : List Int} {G : List (AO × Nat)} {x : Int} : frz (H203 c v0 (r1.map .int) (r2.map .int) (r3.map .int) u1 u2 u3 v5 G) 8 (.tp [.ref 5,.int x]) = some (.tp [.fl [.fl [],rowA r1,rowA r2,rowA r3],.int x]) := by
 have a1 : frz (H203 c v0 (r1.map .int) (r2.map .int) (r3.map .int) u1 u2 u3 v5 G) 6 (.ref 2) = some (rowA r1) := by
  show (allO (frz _ 5) (r1.map .int)).map AV.fl = _
  rw [allO_ints]; rfl
 have a2 : frz (H203 c v0 (r1.map .int) (r2.map .int) (r3.map .int) u1 u2 u3 v5 G) 6 (.ref 3) = some (rowA r2) := by
  show (allO (frz _ 5) (r2.map .int)).map AV.fl = _
  rw [allO_ints]; rfl
 have a3 : frz (H203 c v0 (r1.map .int) (r2.map .int) (r3.map .int) u1 u2 u3 v5 G) 6 (.ref 4) = some (rowA r3) := by
  show (allO (frz _ 5) (r3.map .int)).map AV.fl = _
  rw [allO_ints]; rfl
 have a4 : frz (H203 c v0 (r1.map .int) (r2.map .int) (r3.map .int) u1 u2 u3 v5 G) 7 (.ref 5) = some (.fl [.fl [],rowA r1,rowA r2,rowA r3]) := by
  show (allO (frz _ 6) [.ref 1,.ref 2,.ref 3,.ref 4]).map AV.fl = _
  have : allO (frz (H203 c v0 (r1.map .int) (r2.map .int) (r3.map .int) u1 u2 u3 v5 G) 6) [.ref 1,.ref 2,.ref 3,.ref 4] = some [.fl [],rowA r1,rowA r2,rowA r3] := bo rfl (bo (bo a1 (bo (bo a2 (bo (bo a3 (bo rfl rfl)) rfl)) rfl)) rfl)
  rw [this]; rfl
 show (allO (frz _ 7) [.ref 5,.int x]).map AV.tp = _
 have : allO (frz (H203 c v0 (r1.map .int) (r2.map .int) (r3.map .int) u1 u2 u3 v5 G) 7) [.ref 5,.int x] = some [.fl [.fl [],rowA r1,rowA r2,rowA r3],.int x] := bo a4 (bo (bo rfl rfl) rfl)
 rw [this]; rfl
theorem needs_eq (ns : List Int) (hn : ns.length ≤ 1000) : ∃ (a b c d e f x : Nat),a ≤ 2 ∧ b ≤ 2 ∧ c ≤ 2 ∧ d ≤ 2 ∧ e ≤ 2 ∧ f ≤ 2 ∧ x < 4 ∧ ∀ σ,w203.1 [.fl (ns.map .int)] σ = some (.tp [ndA (needN a b c d e f),.int (x : Int)],σ) := by
 obtain ⟨cs,v,k,n,hc,h1⟩ := loop203a (c := [0,2,3,0,1,0,0]) (v := 0) (sc := .fl (ns.map .int)) (k := none) (n := none) (a := none) (b := none) (d := none) rfl (ns.take 60)
 obtain ⟨c0,c1,c2,c3,c4,c5,c6,rfl⟩ := seven hc
 obtain ⟨u1,u2,u3,v5,G,x2',x3',x6',h2⟩ := loop203b (c0 := c0) (c1 := c1) (c2 := c2) (c3 := c3) (c4 := c4) (c5 := c5) (c6 := c6) (v0 := v) (sc := .fl (ns.map .int)) (x2 := k) (x3 := n)
 have hx0 : 0 ≤ c6.fmod 4 := Int.fmod_nonneg_of_pos _ (by decide)
 have hx4 : c6.fmod 4 < 4 := Int.fmod_lt_of_pos _ (by decide)
 refine ⟨mOf c0,mOf c1,mOf c2,mOf c3,mOf c4,mOf c5,(c6.fmod 4).toNat,(mOf_eq _).2,(mOf_eq _).2,(mOf_eq _).2,(mOf_eq _).2,(mOf_eq _).2,(mOf_eq _).2,by exact arc ‹_› ‹_›,?_⟩
 rw [show (((c6.fmod 4).toNat : Nat) : Int) = c6.fmod 4 by exact arb ‹_›]
 intro σ
 have k0 : sliceV (.fl (ns.map .int)) (fun ks i => ks.take i.toNat) (.int 60) ⟨[some (.fl (ns.map .int)),some (.ref 0),none,none,none,none,none],[(.list [.int 0,.int 2,.int 3,.int 0,.int 1,.int 0,.int 0],0)]⟩ = some (.fl ((ns.take 60).map .int),⟨[some (.fl (ns.map .int)),some (.ref 0),none,none,none,none,none],[(.list [.int 0,.int 2,.int 3,.int 0,.int 1,.int 0,.int 0],0)]⟩) := by
  show (if (0 : Int) ≤ 60 then toInts (ns.map .int) >>= _ else none) = _
  rw [if_pos (by decide),toInts_map]
  show (if ns.length ≤ 1000 then _ else none) = _
  rw [if_pos hn]; rfl
 have k5 : binV .Mod (.int c6) (.int 4) ⟨[some (.fl (ns.map .int)),some (.ref 0),x2',x3',some (.ref 5),some (.ref 6),x6'],H203 [c0,c1,c2,c3,c4,c5,c6] v ([] ++ rp (mOf c0) 0) ([] ++ rp (mOf c1) 0 ++ rp (mOf c2) 1) ([] ++ rp (mOf c3) 0 ++ rp (mOf c4) 1 ++ rp (mOf c5) 2) u1 u2 u3 v5 G⟩ = some (.int (c6.fmod 4)) := mod_int (by decide)
 refine pure_eq (σ' := ⟨[some (.fl (ns.map .int)),some (.ref 0),x2',x3',some (.ref 5),some (.ref 6),x6'],H203 [c0,c1,c2,c3,c4,c5,c6] v ([] ++ rp (mOf c0) 0) ([] ++ rp (mOf c1) 0 ++ rp (mOf c2) 1) ([] ++ rp (mOf c3) 0 ++ rp (mOf c4) 1 ++ rp (mOf c5) 2) u1 u2 u3 v5 G⟩) (a := .ret (.tp [.ref 5,.int (c6.fmod 4)])) (by simp only [List.all_cons,List.all_nil,Bool.and_true]; exact flat_ints 6 ns)
  (sq (σ' := ⟨[some (.fl (ns.map .int)),some (.ref 0),none,none,none,none,none],[(.list [.int 0,.int 2,.int 3,.int 0,.int 1,.int 0,.int 0],0)]⟩) rfl
  (sq (σ' := ⟨[some (.fl (ns.map .int)),some (.ref 0),k,n,none,none,none],[(.list ([c0,c1,c2,c3,c4,c5,c6].map .int),v)]⟩) (f := fEnum _ _ _) (bo (bo rfl (bo rfl k0)) (bo rfl h1))
  (sq (σ' := ⟨[some (.fl (ns.map .int)),some (.ref 0),k,n,some (.ref 5),none,none],[(.list ([c0,c1,c2,c3,c4,c5,c6].map .int),v),(.list [],0),(.list [],0),(.list [],0),(.list [],0),(.list [.ref 1,.ref 2,.ref 3,.ref 4],0)]⟩) rfl
  (sq (σ' := ⟨[some (.fl (ns.map .int)),some (.ref 0),k,n,some (.ref 5),some (.ref 6),none],H203 [c0,c1,c2,c3,c4,c5,c6] v [] [] [] 0 0 0 0 []⟩) rfl
  (sq (f := fEnum _ _ _) (bo rfl (bo rfl h2)) (sqR ?_)))))) ?_
 ·refine bo (bo (bo rfl (bo (bo (a := (.int (c6.fmod 4),_)) (bo (bo rfl (bo rfl rfl)) (bo rfl (mo k5))) (bo rfl rfl)) rfl)) rfl) rfl
 ·have e1 : [] ++ rp (mOf c0) 0 = (List.replicate (mOf c0) 0).map AV.int := rp_map ..
  have e2 : [] ++ rp (mOf c1) 0 ++ rp (mOf c2) 1 = (List.replicate (mOf c1) (0 : Int) ++ List.replicate (mOf c2) 1).map AV.int := by rw [List.map_append,← rp_map,← rp_map]; rfl
  have e3 : [] ++ rp (mOf c3) 0 ++ rp (mOf c4) 1 ++ rp (mOf c5) 2 = (List.replicate (mOf c3) (0 : Int) ++ List.replicate (mOf c4) 1 ++ List.replicate (mOf c5) 2).map AV.int := by rw [List.map_append,List.map_append,← rp_map,← rp_map,← rp_map]; rfl
  rw [e1,e2,e3]
  exact rows203
noncomputable def b210 : St → Option (AF × St) := fSeq (fun σ => fM1 (fName 2) (fun σ => ((fName 2 σ >>= fun p => (some (AV.int (-1),p.2) : Option (AV × St)) >>= fun q => subV p.1 q.1 q.2) >>= fun p => (some (AV.int 1,p.2) : Option (AV × St)) >>= fun q => (binV Operator.Add p.1 q.1 q.2).map fun v => (v,q.2)) >>= fun p =>
 fB1 (fName 3) absV p.2 >>= fun q => (binV Operator.Add p.1 q.1 q.2).map fun v => (v,q.2)) isL appendV σ >>= fun p => some (AF.next,p.2)) fun σ => some (AF.next,σ)
noncomputable def absI (n : Int) : Int := if n < 0 then -n else n
theorem absI_pos (n : Int) : 0 ≤ absI n := by unfold absI; split <;> omega
theorem turn210 {sc nums : AV} {Z : AO × Nat} {xs : List AV} {h n : Int} {k : Nat} (hl : xs.length ≤ 100) : b210 ⟨[some sc,some nums,some (.ref 1),some (.int n)],[Z,(.list (xs ++ [.int h]),k)]⟩ = some (.next,⟨[some sc,some nums,some (.ref 1),some (.int n)],[Z,(.list ((xs ++ [.int h]) ++ [.int (h + 1 + absI n)]),k + 1)]⟩) := by
 refine sq (bo (m1 rfl rfl (q := (.int (h + 1 + absI n),⟨[some sc,some nums,some (.ref 1),some (.int n)],[Z,(.list (xs ++ [.int h]),k)]⟩)) (bo (bo (bo rfl (bo rfl (last_eq (xs := xs) (x := .int h) rfl (by omega)))) (bo rfl (mo rfl))) (bo (bo rfl rfl) (mo rfl))) (apE rfl (by rw [List.length_append,List.length_singleton]; lia))) rfl) rfl
theorem hours_eq (ns : List Int) (hn : ns.length ≤ 100) : ∃ h : Nat → Int,h 0 < h 1 ∧ h 1 < h 2 ∧ h 2 < h 3 ∧ ∀ σ,w210.1 [.fl (ns.map .int)] σ = some (.fl [.int (h 0),.int (h 1),.int (h 2),.int (h 3)],σ) := by
 obtain ⟨n0,n1,n2,n3,e⟩ : ∃ n0 n1 n2 n3,(ns ++ [0,0,0,0]).take 4 = [n0,n1,n2,n3] := by
  rcases ns with _ | ⟨a,_ | ⟨b,_ | ⟨c,_ | ⟨d,r⟩⟩⟩⟩ <;> exact ⟨_,_,_,_,rfl⟩
 have p1 := absI_pos n1
 have p2 := absI_pos n2
 have p3 := absI_pos n3
 refine ⟨fun i => match i with | 0 => n0 | 1 => n0 + 1 + absI n1 | 2 => n0 + 1 + absI n1 + 1 + absI n2 | _ => n0 + 1 + absI n1 + 1 + absI n2 + 1 + absI n3,?_,?_,?_,?_⟩
 ·show n0 < n0 + 1 + absI n1; lia
 ·show n0 + 1 + absI n1 < n0 + 1 + absI n1 + 1 + absI n2; lia
 ·show n0 + 1 + absI n1 + 1 + absI n2 < n0 + 1 + absI n1 + 1 + absI n2 + 1 + absI n3; lia
 ·intro σ
  have k1 : binV .Add (.fl (ns.map .int)) (.ref 0) ⟨[some (.fl (ns.map .int)),none,none,none],[(.list [.int 0,.int 0,.int 0,.int 0],0)]⟩ = some (.fl ((ns ++ [0,0,0,0]).map .int)) := by
   show (spreadV (.fl (ns.map .int)) _ >>= fun xs => binL .Add xs (.ref 0) _) = _
   refine bo (a := ns.map .int) ?_ ?_
   ·show (if (ns.map AV.int).length ≤ 1000 then some (ns.map AV.int) else none) = _
    rw [if_pos (by rw [List.length_map]; lia)]
   ·show some (AV.fl (ns.map .int ++ [.int 0,.int 0,.int 0,.int 0])) = _
    rw [List.map_append]; rfl
  have k2 : ∀ σ : St,sliceV (.fl ((ns ++ [0,0,0,0]).map .int)) (fun ks i => ks.take i.toNat) (.int 4) σ = some (.fl ([n0,n1,n2,n3].map .int),σ) := fun σ => by
   show (if (0 : Int) ≤ 4 then toInts ((ns ++ [0,0,0,0]).map .int) >>= _ else none) = _
   rw [if_pos (by decide),toInts_map]
   show (if (ns ++ [0,0,0,0]).length ≤ 1000 then some (AV.fl (((ns ++ [0,0,0,0]).take 4).map .int),σ) else none) = _
   rw [if_pos (by rw [List.length_append]; simp; lia),e]
  have lp : forS (fun v σ => some (setE 3 v σ)) b210 (fun _ => true) [.int n1,.int n2,.int n3] ⟨[some (.fl (ns.map .int)),some (.fl ([n0,n1,n2,n3].map .int)),some (.ref 1),none],[(.list [.int 0,.int 0,.int 0,.int 0],0),(.list ([] ++ [AV.int n0]),0)]⟩ =
    some (.next,⟨[some (.fl (ns.map .int)),some (.fl ([n0,n1,n2,n3].map .int)),some (.ref 1),some (.int n3)],[(.list [.int 0,.int 0,.int 0,.int 0],0),(.list [.int n0,.int (n0 + 1 + absI n1),.int (n0 + 1 + absI n1 + 1 + absI n2),.int (n0 + 1 + absI n1 + 1 + absI n2 + 1 + absI n3)],3)]⟩) :=
   fC rfl (turn210 (xs := []) (by decide)) rfl (fC rfl (turn210 (xs := [.int n0]) (by simp)) rfl (fC rfl (turn210 (xs := [.int n0,.int (n0 + 1 + absI n1)]) (by simp)) rfl rfl))
  have lf : fFor (fun σ => fName 1 σ >>= fun a => (some (AV.int 1,a.2) : Option (AV × St)) >>= fun b => sliceV a.1 (fun ks i => ks.drop i.toNat) b.1 b.2) (fun v σ => some (setE 3 v σ)) b210 ⟨[some (.fl (ns.map .int)),some (.fl ([n0,n1,n2,n3].map .int)),some (.ref 1),none],[(.list [.int 0,.int 0,.int 0,.int 0],0),(.list ([] ++ [AV.int n0]),0)]⟩ =
    some (.next,⟨[some (.fl (ns.map .int)),some (.fl ([n0,n1,n2,n3].map .int)),some (.ref 1),some (.int n3)],[(.list [.int 0,.int 0,.int 0,.int 0],0),(.list [.int n0,.int (n0 + 1 + absI n1),.int (n0 + 1 + absI n1 + 1 + absI n2),.int (n0 + 1 + absI n1 + 1 + absI n2 + 1 + absI n3)],3)]⟩) := by
   refine bo (a := (.fl [.int n1,.int n2,.int n3],⟨[some (.fl (ns.map .int)),some (.fl ([n0,n1,n2,n3].map .int)),some (.ref 1),none],[(.list [.int 0,.int 0,.int 0,.int 0],0),(.list ([] ++ [AV.int n0]),0)]⟩)) rfl ?_
   refine bo (a := ([.int n1,.int n2,.int n3],fun _ => true)) rfl ?_
   exact lp
  exact pure_eq (by simp only [List.all_cons,List.all_nil,Bool.and_true]; exact flat_ints 6 ns)
   (sq (bo (bo (bo rfl (bo rfl (mo k1))) (bo rfl (k2 _))) rfl) (sq (σ' := ⟨[some (.fl (ns.map .int)),some (.fl ([n0,n1,n2,n3].map .int)),some (.ref 1),none],[(.list [.int 0,.int 0,.int 0,.int 0],0),(.list ([] ++ [AV.int n0]),0)]⟩) rfl (sq lf (sqR rfl)))) rfl
theorem comp_mapf {α : Type} {ta : AV → St → Option St} {fi : St → Option (Bool × St)} {fe : St → Option (AV × St)} (f g : α → AV) (P : St → Prop) : ∀ (xs : List α) (acc : List AV) (σ : St),P σ → (∀ x ∈ xs,∀ σ,P σ → ∃ σ1 σ2 σ3,ta (f x) σ = some σ1 ∧ fi σ1 = some (true,σ2) ∧ fe σ2 = some (g x,σ3) ∧ P σ3) → ∃ σ',compS ta fi fe acc (xs.map f) σ = some (acc ++ xs.map g,σ')
 | [],acc,σ,_,_ => ⟨σ,by rw [List.map_nil,List.map_nil,List.append_nil]; rfl⟩
 | x :: xs,acc,σ,hP,h => by
  obtain ⟨σ1,σ2,σ3,h1,h2,h3,h4⟩ := h x (.head _) σ hP
  obtain ⟨σ',e⟩ := comp_mapf f g P xs (acc ++ [g x]) σ3 h4 fun y hy => h y (.tail _ hy)
  refine ⟨σ',comp_cons h1 h2 h3 (fun _ => ?_) (fun q => nomatch q)⟩
  rw [e,List.append_assoc]; rfl
noncomputable def placeR (r : List Int) : List Int := (List.range 4).map fun (k : Nat) => (((r.findIdx? (· == (k : Int))).getD 0 : Nat) : Int)
noncomputable def okRow (r : List Int) : Bool := decide (r.length ≤ 100) && (List.range 4).all fun (k : Nat) => (r.findIdx? (· == (k : Int))).isSome
noncomputable def sIdx : St → Option (AV × St) := fun σ => fComp [none,none,some 1] tSrc (fun v σ => some (setE 1 v σ)) (fun σ => some (true,σ)) (fM1 (fName 2) (fName 1) isIL indexV) σ >>= fun q => some (AV.fl q.1,q.2)
noncomputable def nSrc (k : Nat) : St → Option (List AV × St) := fun σ => fName k σ >>= fun p => spreadV p.1 p.2 >>= fun xs => some (xs,p.2)
noncomputable def sPlaces : St → Option (AV × St) := fun σ => fComp [none,none,none] (nSrc 4) (fun v σ => some (setE 1 v σ)) (fun σ => some (true,σ)) sIdx σ >>= fun q => some (AV.fl q.1,q.2)
theorem tSrc_eq (σ : St) : tSrc σ = some (rangeL 4,σ) := rfl
theorem nSrc_eq {k : Nat} {σ : St} {xs : List AV} (h : getE k σ = some (.fl xs)) (hl : xs.length ≤ 1000) : nSrc k σ = some (xs,σ) := by
 unfold nSrc
 refine bo (a := (.fl xs,σ)) (by unfold fName; rw [h]; rfl) (bo (a := xs) ?_ rfl)
 show (if xs.length ≤ 1000 then some xs else none) = _
 rw [if_pos hl]
theorem idxRow_ok {r : List Int} (hr : okRow r = true) {a b : Option AV} {H : List (AO × Nat)} : sIdx ⟨[a,some (rowA r),b],H⟩ = some (rowA (placeR r),⟨[a,some (rowA r),b],H⟩) := by
 unfold okRow at hr
 rw [Bool.and_eq_true] at hr
 have hl := of_decide_eq_true hr.1
 obtain ⟨σ',e⟩ := comp_mapf (ta := fun v σ => some (setE 1 v σ)) (fi := fun σ => some (true,σ)) (fe := fM1 (fName 2) (fName 1) isIL indexV) (fun k : Nat => AV.int (k : Int)) (fun k => .int (((r.findIdx? (· == (k : Int))).getD 0 : Nat) : Int)) (fun σ => ∃ x y,σ = ⟨[x,y,some (rowA r)],H⟩) (List.range 4) [] ⟨[none,none,some (rowA r)],H⟩ ⟨none,none,rfl⟩ (by
   rintro k hk σ ⟨c,d,rfl⟩
   have hs := List.all_eq_true.mp hr.2 k hk
   obtain ⟨j,hj⟩ := Option.isSome_iff_exists.mp hs
   refine ⟨⟨[c,some (.int (k : Int)),some (rowA r)],H⟩,_,⟨[c,some (.int (k : Int)),some (rowA r)],H⟩,rfl,rfl,m1 rfl ?_ rfl ?_,c,_,rfl⟩
   ·show (toInts (r.map .int)).isSome = true
    rw [toInts_map]; rfl
   ·show (toInts (r.map .int) >>= _) = _
    rw [toInts_map]
    show (if r.length < 1000 then _ else none) = _
    rw [if_pos (by omega),hj]; rfl)
 refine bo (fcomp_eq (σ' := σ') rfl (tSrc_eq _) (by decide) e) ?_
 unfold rowA placeR
 rw [List.map_map]; rfl
theorem places_ok {rs : List (List Int)} (hl : rs.length ≤ 1000) (hr : ∀ r ∈ rs,okRow r = true) {σ : St} (h : getE 4 σ = some (.fl (rowsA rs))) : sPlaces σ = some (.fl (rowsA (rs.map placeR)),σ) := by
 obtain ⟨σ',e⟩ := comp_mapf (ta := fun v σ => some (setE 1 v σ)) (fi := fun σ => some (true,σ)) (fe := sIdx) rowA (fun r => rowA (placeR r)) (fun τ => ∃ x y z,τ = ⟨[x,y,z],σ.heap⟩) rs [] ⟨[none,none,none],σ.heap⟩ ⟨none,none,none,rfl⟩ (by
   rintro r hr' τ ⟨a,b,c,rfl⟩
   exact ⟨⟨[a,some (rowA r),c],σ.heap⟩,_,⟨[a,some (rowA r),c],σ.heap⟩,rfl,rfl,idxRow_ok (hr r hr'),a,_,c,rfl⟩)
 refine bo (fcomp_eq (σ' := σ') rfl (nSrc_eq h (by unfold rowsA; rw [List.length_map]; exact hl)) (by unfold rowsA; rw [List.length_map]; exact hl) e) ?_
 unfold rowsA
 rw [List.map_map]; rfl
noncomputable def sg (i j : Int) : Int := b2i (decide (i > j)) - b2i (decide (i < j))
noncomputable def hrsA (h : Nat → Int) : AV := .fl [.int (h 0),.int (h 1),.int (h 2),.int (h 3)]
noncomputable def okP (p : List Int) : Bool := p.length == 4 && p.all fun i => decide (0 ≤ i ∧ i < 4)
theorem okP_at {p : List Int} (h : okP p = true) {x : Nat} (hx : x < 4) : ∃ j : Nat,j < 4 ∧ p[x]? = some (j : Int) ∧ p.getD x 0 = (j : Int) := by
 unfold okP at h
 rw [Bool.and_eq_true,beq_iff_eq] at h
 have hlt : x < p.length := by simp_all
 have := of_decide_eq_true (List.all_eq_true.mp h.2 (p[x]'hlt) (List.getElem_mem _))
 refine ⟨(p[x]'hlt).toNat,by exact arf ‹_›,?_,?_⟩
 ·rw [List.getElem?_eq_getElem hlt,show (((p[x]'hlt).toNat : Nat) : Int) = p[x]'hlt by exact are ‹_›]
 ·rw [List.getD_eq_getElem?_getD,List.getElem?_eq_getElem hlt,show (((p[x]'hlt).toNat : Nat) : Int) = p[x]'hlt by exact are ‹_›]; rfl
theorem hrs_at {h : Nat → Int} {j : Nat} (hj : j < 4) {σ : St} : subV (hrsA h) (.int (j : Int)) σ = some (.int (h j),σ) := by
 obtain rfl | rfl | rfl | rfl := four (w := j) (by assumption)
 all_goals rfl
theorem row_at {p : List Int} {x : Nat} {v : Int} (hx : x < 4) (h : p[x]? = some v) {σ : St} : subV (rowA p) (.int (x : Int)) σ = some (.int v,σ) := by
 unfold subV rowA
 dsimp only
 rw [idx_ints (by omega) h]; rfl
noncomputable def Mono (h : Nat → Int) : Prop := h 0 < h 1 ∧ h 1 < h 2 ∧ h 2 < h 3
theorem sg_mono {h : Nat → Int} (m : Mono h) {i j : Nat} (hi : i < 4) (hj : j < 4) : b2i (decide (h i > h j)) - b2i (decide (h i < h j)) = sg i j := by
 obtain ⟨m1,m2,m3⟩ := m
 have key : ((h i > h j) ↔ ((i : Int) > j)) ∧ ((h i < h j) ↔ ((i : Int) < j)) := by
  obtain rfl | rfl | rfl | rfl := four (w := i) (by assumption)
  all_goals
   obtain rfl | rfl | rfl | rfl := four (w := j) (by assumption)
   all_goals omega
 unfold sg
 rw [decide_eq_decide.mpr key.1,decide_eq_decide.mpr key.2]
noncomputable def sgEl : St → Option (AV × St) := fun σ => fName 4 σ >>= fun p => (fCons (fun σ => fName 3 σ >>= fun p => (fName 1 p.2 >>= fun p => fName 5 p.2 >>= fun q => subV p.1 q.1 q.2) >>= fun q => subV p.1 q.1 q.2) (fCons (fun σ => fName 3 σ >>= fun p => (fName 1 p.2 >>= fun p => fName 6 p.2 >>= fun q => subV p.1 q.1 q.2) >>= fun q => subV p.1 q.1 q.2) fun σ => some ([],σ)) p.2 >>= fun q => w196.1 q.1 q.2) >>= fun q => (binV Operator.Mult p.1 q.1 q.2).map fun v => (v,q.2)
noncomputable def sgRow : St → Option (AV × St) := fun σ => fComp [none,none,none,some 2,some 4,some 5,some 1] (nSrc 3) (fun v σ => some (setE 1 v σ)) (fun σ => some (true,σ)) sgEl σ >>= fun q => some (AV.fl q.1,q.2)
noncomputable def sgAll : St → Option (List AV × St) := fun σ => fComp [none,none,some 3,some 8,some 7,some 2] tSrc (fun v σ => some (setE 1 v σ)) (fun σ => some (true,σ)) sgRow σ
theorem sgEl_ok {h : Nat → Int} (m : Mono h) {p : List Int} (hp : okP p = true) {x y : Nat} (hx : x < 4) (hy : y < 4) {sc : Int} (hs : Builtin.Int.intBits sc ≤ 64) {a b : Option AV} {H : List (AO × Nat)} :
  sgEl ⟨[a,some (rowA p),b,some (hrsA h),some (.int sc),some (.int (x : Int)),some (.int (y : Int))],H⟩ = some (.int (sc * sg (p.getD x 0) (p.getD y 0)),⟨[a,some (rowA p),b,some (hrsA h),some (.int sc),some (.int (x : Int)),some (.int (y : Int))],H⟩) := by
 obtain ⟨i,hi,e1,e2⟩ := okP_at hp hx
 obtain ⟨j,hj,e3,e4⟩ := okP_at hp hy
 rw [e2,e4]
 refine bo rfl (bo (bo (a := ([.int (h i),.int (h j)],_)) (bo (bo rfl (bo (bo rfl (bo rfl (row_at hx e1))) (hrs_at hi))) (bo (bo (bo rfl (bo (bo rfl (bo rfl (row_at hy e3))) (hrs_at hj))) (bo rfl rfl)) rfl)) (w196_eq (h i) (h j) _)) (mo ?_))
 rw [sg_mono m hi hj]
 show (if Builtin.Int.intBits sc ≤ 64 then some (sc * sg i j) else none).map AV.int = _
 rw [if_pos hs]; rfl
noncomputable def signR (ps : List (List Int)) (sc : Int) (x y : Nat) : List Int := ps.map fun p => sc * sg (p.getD x 0) (p.getD y 0)
noncomputable def signsR (ps : List (List Int)) (sc : Int) (x : Nat) : List (List Int) := (List.range 4).map fun y => signR ps sc x y
theorem sgRow_ok {h : Nat → Int} (m : Mono h) {ps : List (List Int)} (hps : ∀ p ∈ ps,okP p = true) (hl : ps.length ≤ 1000) {x y : Nat} (hx : x < 4) (hy : y < 4) {sc : Int} (hs : Builtin.Int.intBits sc ≤ 64) {a : Option AV} {H : List (AO × Nat)} :
  sgRow ⟨[a,some (.int (y : Int)),some (hrsA h),some (.fl (rowsA ps)),some (.int sc),some (.int (x : Int))],H⟩ = some (rowA (signR ps sc x y),⟨[a,some (.int (y : Int)),some (hrsA h),some (.fl (rowsA ps)),some (.int sc),some (.int (x : Int))],H⟩) := by
 obtain ⟨σ',e⟩ := comp_mapf (ta := fun v σ => some (setE 1 v σ)) (fi := fun σ => some (true,σ)) (fe := sgEl) rowA (fun p => .int (sc * sg (p.getD x 0) (p.getD y 0))) (fun τ => ∃ u v w,τ = ⟨[u,v,w,some (hrsA h),some (.int sc),some (.int (x : Int)),some (.int (y : Int))],H⟩) ps [] ⟨[none,none,none,some (hrsA h),some (.int sc),some (.int (x : Int)),some (.int (y : Int))],H⟩ ⟨none,none,none,rfl⟩ (by
   rintro p hp τ ⟨u,v,w,rfl⟩
   exact ⟨⟨[u,some (rowA p),w,some (hrsA h),some (.int sc),some (.int (x : Int)),some (.int (y : Int))],H⟩,_,⟨[u,some (rowA p),w,some (hrsA h),some (.int sc),some (.int (x : Int)),some (.int (y : Int))],H⟩,rfl,rfl,sgEl_ok m (hps p hp) hx hy hs,u,_,w,rfl⟩)
 refine bo (fcomp_eq (σ' := σ') rfl (nSrc_eq (xs := rowsA ps) rfl (by unfold rowsA; rw [List.length_map]; exact hl)) (by unfold rowsA; rw [List.length_map]; exact hl) e) ?_
 unfold rowA signR
 rw [List.map_map]; rfl
theorem signs_ok {h : Nat → Int} (m : Mono h) {ps : List (List Int)} (hps : ∀ p ∈ ps,okP p = true) (hl : ps.length ≤ 1000) {x : Nat} (hx : x < 4) {sc : Int} (hs : Builtin.Int.intBits sc ≤ 64) {σ : St}
  (g2 : getE 2 σ = some (.int (x : Int))) (g3 : getE 3 σ = some (hrsA h)) (g7 : getE 7 σ = some (.int sc)) (g8 : getE 8 σ = some (.fl (rowsA ps))) : sgAll σ = some (rowsA (signsR ps sc x),σ) := by
 obtain ⟨σ',e⟩ := comp_mapf (ta := fun v σ => some (setE 1 v σ)) (fi := fun σ => some (true,σ)) (fe := sgRow) (fun y : Nat => AV.int (y : Int)) (fun y => rowA (signR ps sc x y)) (fun τ => ∃ u v,τ = ⟨[u,v,some (hrsA h),some (.fl (rowsA ps)),some (.int sc),some (.int (x : Int))],σ.heap⟩) (List.range 4) [] ⟨[none,none,some (hrsA h),some (.fl (rowsA ps)),some (.int sc),some (.int (x : Int))],σ.heap⟩ ⟨none,none,rfl⟩ (by
   rintro y hy τ ⟨u,v,rfl⟩
   exact ⟨⟨[u,some (.int (y : Int)),some (hrsA h),some (.fl (rowsA ps)),some (.int sc),some (.int (x : Int))],σ.heap⟩,_,⟨[u,some (.int (y : Int)),some (hrsA h),some (.fl (rowsA ps)),some (.int sc),some (.int (x : Int))],σ.heap⟩,rfl,rfl,sgRow_ok m hps hl hx (List.mem_range.mp hy) hs,u,_,rfl⟩)
 have hb : blkE [none,none,some 3,some 8,some 7,some 2] σ = [none,none,some (hrsA h),some (.fl (rowsA ps)),some (.int sc),some (.int (x : Int))] := by
  show [none,none,getE 3 σ,getE 8 σ,getE 7 σ,getE 2 σ] = _
  rw [g2,g3,g7,g8]
 refine fcomp_eq (σ' := σ') ?_ (tSrc_eq σ) (by decide) ?_
 ·show (true && (true && ((getE 3 σ).isSome && ((getE 8 σ).isSome && ((getE 7 σ).isSome && ((getE 2 σ).isSome && true)))))) = true
  rw [g2,g3,g7,g8]; rfl
 ·rw [hb]
  refine e.trans ?_
  unfold signsR rowsA
  rw [List.map_map]; rfl
noncomputable def lawRest : { g : St → Option (AF × St) // ∃ a1 a2 a3 a4 a5 a6 a7 a8 a9,w244.1 = fSeq a1 (fSeq a2 (fSeq a3 (fSeq a4 (fSeq a5 (fSeq a6 (fSeq a7 (fSeq a8 (fSeq a9 g)))))))) } := ⟨_,_,_,_,_,_,_,_,_,_,rfl⟩
noncomputable def sortA (xs : List AV) : Option AV := (sortV (.fl xs) ⟨[],[]⟩).map (·.1)
theorem sort_ok {xs : List AV} {v : AV} (h : sortA xs = some v) (σ : St) : sortV (.fl xs) σ = some (v,σ) := by
 unfold sortA sortV at h
 unfold sortV
 dsimp only at h ⊢
 cases e : toRows xs with
 | none => rw [e] at h; cases h
 | some kss =>
  rw [e] at h
  replace h : (if kss.length = 1 then some (AV.fl xs,(⟨[],[]⟩ : St)) else if 2 ≤ kss.length ∧ kss.length < 64 then sortP kss >>= fun p => some (AV.fl (p.map fun i => xs.getD i .none),⟨[],[]⟩) else none).map (·.1) = some v := h
  show (if kss.length = 1 then some (AV.fl xs,σ) else if 2 ≤ kss.length ∧ kss.length < 64 then sortP kss >>= fun p => some (AV.fl (p.map fun i => xs.getD i .none),σ) else none) = _
  split at h
  ·rename_i h1
   rw [if_pos h1]
   cases h; rfl
  ·rename_i h1
   rw [if_neg h1]
   split at h
   ·rename_i h2
    rw [if_pos h2]
    cases e2 : sortP kss with
    | none => rw [e2] at h; cases h
    | some p => rw [e2] at h; cases h; rfl
   ·cases h
noncomputable def okSort (rs os : List (List Int)) : Bool := match sortA (rowsA rs),sortA (rowsA os) with
 | some (.fl v),some (.fl w) => eqL (.fl v) (.fl w) ⟨[],[]⟩ == some true
 | _,_ => false
theorem twoB {a b : Option AV} {F : List AV → List AV → Bool} (h : (match a,b with | some (.fl v),some (.fl w) => F v w | _,_ => false) = true) : ∃ v w,a = some (.fl v) ∧ b = some (.fl w) ∧ F v w = true := by
 cases a with
 | none => exact falseE h
 | some x =>
  cases x with
  | fl v =>
   cases b with
   | none => exact falseE h
   | some y =>
    cases y with
    | fl w => exact ⟨v,w,rfl,rfl,h⟩
    | _ => exact falseE h
  | _ => exact falseE h
theorem okSort_ok {rs os : List (List Int)} (h : okSort rs os = true) (σ : St) : ∃ v w,sortV (.fl (rowsA rs)) σ = some (v,σ) ∧ sortV (.fl (rowsA os)) σ = some (w,σ) ∧ cmpV .NotEq v w σ = some false := by
 obtain ⟨v,w,h1,h2,h⟩ := twoB (F := fun v w => eqL (.fl v) (.fl w) ⟨[],[]⟩ == some true) h
 rw [beq_iff_eq] at h
 refine ⟨_,_,sort_ok h1 σ,sort_ok h2 σ,?_⟩
 show (eqL (.fl v) (.fl w) σ).map (fun c => !c) = _
 have : eqL (.fl v) (.fl w) σ = eqL (.fl v) (.fl w) ⟨[],[]⟩ := rfl
 rw [this,h]; rfl
noncomputable def LE (sc nd hr : AV) (x : Nat) (rs : List (List Int)) (ts : List (List Bool)) (ps sgs : List (List Int)) (n : Int) : List (Option AV) :=
 [some sc,some nd,some (.int (x : Int)),some hr,some (.fl (rowsA rs)),some (.fl (ts.map boolsA)),some (.int n),some (.int (n * (n - 1))),some (.fl (rowsA ps)),none,some (.fl (rowsA sgs)),none,none,none,none,none,none,none,none,none,none]
structure Facts (N : Nat → List Int) (rs os : List (List Int)) : Prop where
 r : runsP (okL N [] (zerosP N)) (freeL N [] (zerosP N)) = some rs
 o : oP N = some os
 s : okSort rs os = true
 w : rs.all okRow = true
 p : (rs.map placeR).all okP = true
 l : decide (rs.length < 900) = true
 n1 : decide (Builtin.Int.intBits (rs.length : Int) ≤ 64) = true
 n2 : decide (Builtin.Int.intBits ((rs.length : Int) * ((rs.length : Int) - 1)) ≤ 64) = true
theorem law_start {N N' : Nat → List Int} (hs : Same N N') (hN : NOk N) {rs os : List (List Int)} (F : Facts N' rs os) {ns : List Int} (hl : ns.length ≤ 63) {x : Nat} (hx : x < 4) (hn : ∀ σ,w203.1 [.fl (ns.map .int)] σ = some (.tp [ndA N,.int (x : Int)],σ)) {h : Nat → Int} (m : Mono h) (hh : ∀ σ,w210.1 [.fl (ns.map .int)] σ = some (hrsA h,σ)) {r : Option (AF × St)}
  (hr : lawRest.1 ⟨LE (.fl (ns.map .int)) (ndA N) (hrsA h) x rs (tiedP (Bs N' 4)) (rs.map placeR) (signsR (rs.map placeR) ((rs.length : Int) * ((rs.length : Int) - 1)) x) rs.length,[(.tbl,0)]⟩ = r) :
  w244.1 ⟨env0 [.fl (ns.map .int)] 20,[(.tbl,0)]⟩ = r := by
 have hlr : rs.length < 900 := of_decide_eq_true F.l
 obtain ⟨v,w,s1,s2,s3⟩ := okSort_ok F.s ⟨[some (.fl (ns.map .int)),some (ndA N),some (.int (x : Int)),some (hrsA h),some (.fl (rowsA rs)),none,none,none,none,none,none,none,none,none,none,none,none,none,none,none,none],[(.tbl,0)]⟩
 have hrl : (rowsA rs).length = rs.length := List.length_map ..
 have k6 : lenV (.fl (rowsA rs)) ⟨[some (.fl (ns.map .int)),some (ndA N),some (.int (x : Int)),some (hrsA h),some (.fl (rowsA rs)),some (.fl ((tiedP (Bs N' 4)).map boolsA)),none,none,none,none,none,none,none,none,none,none,none,none,none,none,none],[(.tbl,0)]⟩ = some (.int rs.length,⟨[some (.fl (ns.map .int)),some (ndA N),some (.int (x : Int)),some (hrsA h),some (.fl (rowsA rs)),some (.fl ((tiedP (Bs N' 4)).map boolsA)),none,none,none,none,none,none,none,none,none,none,none,none,none,none,none],[(.tbl,0)]⟩) := by
  show (if (rowsA rs).length < 1000 then some (AV.int (rowsA rs).length,_) else none) = _
  rw [if_pos (by lia),hrl]
 have k7 : ∀ σ : St,binV .Mult (.int rs.length) (.int ((rs.length : Int) - 1)) σ = some (.int ((rs.length : Int) * ((rs.length : Int) - 1))) := fun σ => by
  show (if Builtin.Int.intBits (rs.length : Int) ≤ 64 then some ((rs.length : Int) * ((rs.length : Int) - 1)) else none).map AV.int = _
  rw [if_pos (of_decide_eq_true F.n1)]; rfl
 have k8 := places_ok (rs := rs) (by lia) (List.all_eq_true.mp F.w) (σ := ⟨[some (.fl (ns.map .int)),some (ndA N),some (.int (x : Int)),some (hrsA h),some (.fl (rowsA rs)),some (.fl ((tiedP (Bs N' 4)).map boolsA)),some (.int rs.length),some (.int ((rs.length : Int) * ((rs.length : Int) - 1))),none,none,none,none,none,none,none,none,none,none,none,none,none],[(.tbl,0)]⟩) rfl
 have k9 := signs_ok m (ps := rs.map placeR) (List.all_eq_true.mp F.p) (by rw [List.length_map]; omega) hx (of_decide_eq_true F.n2) (σ := ⟨[some (.fl (ns.map .int)),some (ndA N),some (.int (x : Int)),some (hrsA h),some (.fl (rowsA rs)),some (.fl ((tiedP (Bs N' 4)).map boolsA)),some (.int rs.length),some (.int ((rs.length : Int) * ((rs.length : Int) - 1))),some (.fl (rowsA (rs.map placeR))),none,none,none,none,none,none,none,none,none,none,none,none],[(.tbl,0)]⟩) rfl rfl rfl rfl
 delta w244
 dsimp only
 refine sq (σ' := ⟨[some (.fl (ns.map .int)),some (ndA N),some (.int (x : Int)),none,none,none,none,none,none,none,none,none,none,none,none,none,none,none,none,none,none],[(.tbl,0)]⟩) (bo (bo rfl (hn _)) (mo rfl)) ?_
 refine sq (σ' := ⟨[some (.fl (ns.map .int)),some (ndA N),some (.int (x : Int)),some (hrsA h),none,none,none,none,none,none,none,none,none,none,none,none,none,none,none,none,none],[(.tbl,0)]⟩) (bo (bo rfl (hh _)) rfl) ?_
 refine sq (σ' := ⟨[some (.fl (ns.map .int)),some (ndA N),some (.int (x : Int)),some (hrsA h),some (.fl (rowsA rs)),none,none,none,none,none,none,none,none,none,none,none,none,none,none,none,none],[(.tbl,0)]⟩) (bo (bo rfl (runs_same hs hN F.r)) rfl) ?_
 refine sq (σ' := ⟨[some (.fl (ns.map .int)),some (ndA N),some (.int (x : Int)),some (hrsA h),some (.fl (rowsA rs)),none,none,none,none,none,none,none,none,none,none,none,none,none,none,none,none],[(.tbl,0)]⟩) (bo (bo (bo rfl s1) (bo (bo (bo rfl (orders_same hs hN F.o)) s2) (mo s3))) rfl) ?_
 refine sq (σ' := ⟨[some (.fl (ns.map .int)),some (ndA N),some (.int (x : Int)),some (hrsA h),some (.fl (rowsA rs)),some (.fl ((tiedP (Bs N' 4)).map boolsA)),none,none,none,none,none,none,none,none,none,none,none,none,none,none,none],[(.tbl,0)]⟩) (bo (bo rfl (tied_same hs hN)) rfl) ?_
 refine sq (σ' := ⟨[some (.fl (ns.map .int)),some (ndA N),some (.int (x : Int)),some (hrsA h),some (.fl (rowsA rs)),some (.fl ((tiedP (Bs N' 4)).map boolsA)),some (.int rs.length),none,none,none,none,none,none,none,none,none,none,none,none,none,none],[(.tbl,0)]⟩) (bo (bo rfl k6) rfl) ?_
 refine sq (σ' := ⟨[some (.fl (ns.map .int)),some (ndA N),some (.int (x : Int)),some (hrsA h),some (.fl (rowsA rs)),some (.fl ((tiedP (Bs N' 4)).map boolsA)),some (.int rs.length),some (.int ((rs.length : Int) * ((rs.length : Int) - 1))),none,none,none,none,none,none,none,none,none,none,none,none,none],[(.tbl,0)]⟩) (bo (bo rfl (bo (bo rfl (bo rfl (mo rfl))) (mo (k7 _)))) rfl) ?_
 refine sq (bo k8 rfl) ?_
 refine sq (bo k9 rfl) ?_
 exact hr
noncomputable def chkT (r : Option (AF × St)) : Bool := match r with
 | some (.ret (.bool true),σ) => (match σ.heap[0]? with
  | some (AO.tbl,_) => true
  | _ => false)
 | _ => false
theorem tblB {o : Option (AO × Nat)} (h : (match o with | some (AO.tbl,_) => true | _ => false) = true) : ∃ n,o = some (.tbl,n) := by
 cases o with
 | none => exact falseE h
 | some p =>
  obtain ⟨a,n⟩ := p
  cases a with
  | tbl => exact ⟨n,rfl⟩
  | _ => exact falseE h
theorem chkT_ok {r : Option (AF × St)} (h : chkT r = true) : ∃ σ' n,r = some (.ret (.bool true),σ') ∧ σ'.heap[0]? = some (.tbl,n) := by
 cases r with
 | none => exact falseE h
 | some p =>
  obtain ⟨af,σ⟩ := p
  cases af with
  | ret v =>
   cases v with
   | bool b =>
    cases b with
    | true =>
     obtain ⟨n,e⟩ := tblB (o := σ.heap[0]?) h
     exact ⟨σ,n,rfl,e⟩
    | false => exact falseE h
   | _ => exact falseE h
  | _ => exact falseE h
noncomputable def restB (sc nd hr : AV) (N : Nat → List Int) (rs : List (List Int)) (x : Nat) : Bool := chkT (lawRest.1 ⟨LE sc nd hr x rs (tiedP (Bs N 4)) (rs.map placeR) (signsR (rs.map placeR) ((rs.length : Int) * ((rs.length : Int) - 1)) x) rs.length,[(.tbl,0)]⟩)
noncomputable def rA (sc nd hr : AV) (N : Nat → List Int) (rs : List (List Int)) : Bool := restB sc nd hr N rs 0 && (restB sc nd hr N rs 1 && (restB sc nd hr N rs 2 && restB sc nd hr N rs 3))
noncomputable def Ok64 (a b c d e f : Nat) : Prop := ∃ rs os,Facts (needN a b c d e f) rs os ∧ ∀ sc nd hr,rA sc nd hr (needN a b c d e f) rs = true
theorem ok64 {a b c d e f : Nat} (R : List (List Int)) (F : Facts (needN a b c d e f) R ((oP (needN a b c d e f)).getD []) := by constructor <;> kernel_rfl) (G : ∀ sc nd hr,rA sc nd hr (needN a b c d e f) R = true := by intro _ _ _; kernel_rfl) : Ok64 a b c d e f := ⟨R,_,F,G⟩
theorem Q000000 : Ok64 0 0 0 0 0 0 := ok64 [[0,1,2,3],[0,1,3,2],[0,2,1,3],[0,2,3,1],[0,3,1,2],[0,3,2,1],[1,0,2,3],[1,0,3,2],[1,2,0,3],[1,2,3,0],[1,3,0,2],[1,3,2,0],[2,0,1,3],[2,0,3,1],[2,1,0,3],[2,1,3,0],[2,3,0,1],[2,3,1,0],[3,0,1,2],[3,0,2,1],[3,1,0,2],[3,1,2,0],[3,2,0,1],[3,2,1,0]]
theorem Q000001 : Ok64 0 0 0 0 0 1 := ok64 [[0,1,2,3],[0,2,1,3],[0,2,3,1],[1,0,2,3],[1,2,0,3],[1,2,3,0],[2,0,1,3],[2,0,3,1],[2,1,0,3],[2,1,3,0],[2,3,0,1],[2,3,1,0]]
theorem Q000010 : Ok64 0 0 0 0 1 0 := ok64 [[0,1,2,3],[0,1,3,2],[0,2,1,3],[1,0,2,3],[1,0,3,2],[1,2,0,3],[1,2,3,0],[1,3,0,2],[1,3,2,0],[2,0,1,3],[2,1,0,3],[2,1,3,0]]
theorem Q000011 : Ok64 0 0 0 0 1 1 := ok64 [[0,1,2,3],[0,2,1,3],[1,0,2,3],[1,2,0,3],[1,2,3,0],[2,0,1,3],[2,1,0,3],[2,1,3,0]]
theorem Q000100 : Ok64 0 0 0 1 0 0 := ok64 [[0,1,2,3],[0,1,3,2],[0,2,1,3],[0,2,3,1],[0,3,1,2],[0,3,2,1],[1,0,2,3],[1,0,3,2],[1,2,0,3],[2,0,1,3],[2,0,3,1],[2,1,0,3]]
theorem Q000101 : Ok64 0 0 0 1 0 1 := ok64 [[0,1,2,3],[0,2,1,3],[0,2,3,1],[1,0,2,3],[1,2,0,3],[2,0,1,3],[2,0,3,1],[2,1,0,3]]
theorem Q000110 : Ok64 0 0 0 1 1 0 := ok64 [[0,1,2,3],[0,1,3,2],[0,2,1,3],[1,0,2,3],[1,0,3,2],[1,2,0,3],[2,0,1,3],[2,1,0,3]]
theorem Q000111 : Ok64 0 0 0 1 1 1 := ok64 [[0,1,2,3],[0,2,1,3],[1,0,2,3],[1,2,0,3],[2,0,1,3],[2,1,0,3]]
theorem Q001000 : Ok64 0 0 1 0 0 0 := ok64 [[0,1,3,2],[0,1,2,3],[0,3,1,2],[1,0,3,2],[1,0,2,3],[1,3,0,2],[1,3,2,0],[1,2,0,3],[1,2,3,0],[3,0,1,2],[3,1,0,2],[3,1,2,0]]
theorem Q001001 : Ok64 0 0 1 0 0 1 := ok64 [[0,1,2,3],[1,0,2,3],[1,2,0,3],[1,2,3,0]]
theorem Q001010 : Ok64 0 0 1 0 1 0 := ok64 [[0,1,2,3],[0,1,3,2],[1,0,2,3],[1,0,3,2],[1,2,0,3],[1,2,3,0],[1,3,0,2],[1,3,2,0]]
theorem Q001011 : Ok64 0 0 1 0 1 1 := ok64 [[0,1,2,3],[1,0,2,3],[1,2,0,3],[1,2,3,0]]
theorem Q001100 : Ok64 0 0 1 1 0 0 := ok64 [[0,1,3,2],[0,1,2,3],[0,3,1,2],[1,0,3,2],[1,0,2,3],[1,2,0,3]]
theorem Q001101 : Ok64 0 0 1 1 0 1 := ok64 [[0,1,2,3],[1,0,2,3],[1,2,0,3]]
theorem Q001110 : Ok64 0 0 1 1 1 0 := ok64 [[0,1,2,3],[0,1,3,2],[1,0,2,3],[1,0,3,2],[1,2,0,3]]
theorem Q001111 : Ok64 0 0 1 1 1 1 := ok64 [[0,1,2,3],[1,0,2,3],[1,2,0,3]]
theorem Q010000 : Ok64 0 1 0 0 0 0 := ok64 [[0,1,3,2],[0,1,2,3],[0,3,1,2],[0,3,2,1],[0,2,1,3],[0,2,3,1],[1,0,3,2],[1,0,2,3],[1,3,0,2],[3,0,1,2],[3,0,2,1],[3,1,0,2]]
theorem Q010001 : Ok64 0 1 0 0 0 1 := ok64 [[0,1,2,3],[0,2,1,3],[0,2,3,1],[1,0,2,3]]
theorem Q010010 : Ok64 0 1 0 0 1 0 := ok64 [[0,1,2,3],[0,1,3,2],[0,2,1,3],[1,0,2,3],[1,0,3,2],[1,3,0,2]]
theorem Q010011 : Ok64 0 1 0 0 1 1 := ok64 [[0,1,2,3],[0,2,1,3],[1,0,2,3]]
theorem Q010100 : Ok64 0 1 0 1 0 0 := ok64 [[0,1,2,3],[0,1,3,2],[0,2,1,3],[0,2,3,1],[0,3,1,2],[0,3,2,1],[1,0,2,3],[1,0,3,2]]
theorem Q010101 : Ok64 0 1 0 1 0 1 := ok64 [[0,1,2,3],[0,2,1,3],[0,2,3,1],[1,0,2,3]]
theorem Q010110 : Ok64 0 1 0 1 1 0 := ok64 [[0,1,2,3],[0,1,3,2],[0,2,1,3],[1,0,2,3],[1,0,3,2]]
theorem Q010111 : Ok64 0 1 0 1 1 1 := ok64 [[0,1,2,3],[0,2,1,3],[1,0,2,3]]
theorem Q011000 : Ok64 0 1 1 0 0 0 := ok64 [[0,1,3,2],[0,1,2,3],[0,3,1,2],[1,0,3,2],[1,0,2,3],[1,3,0,2],[3,0,1,2],[3,1,0,2]]
theorem Q011001 : Ok64 0 1 1 0 0 1 := ok64 [[0,1,2,3],[1,0,2,3]]
theorem Q011010 : Ok64 0 1 1 0 1 0 := ok64 [[0,1,2,3],[0,1,3,2],[1,0,2,3],[1,0,3,2],[1,3,0,2]]
theorem Q011011 : Ok64 0 1 1 0 1 1 := ok64 [[0,1,2,3],[1,0,2,3]]
theorem Q011100 : Ok64 0 1 1 1 0 0 := ok64 [[0,1,3,2],[0,1,2,3],[0,3,1,2],[1,0,3,2],[1,0,2,3]]
theorem Q011101 : Ok64 0 1 1 1 0 1 := ok64 [[0,1,2,3],[1,0,2,3]]
theorem Q011110 : Ok64 0 1 1 1 1 0 := ok64 [[0,1,2,3],[0,1,3,2],[1,0,2,3],[1,0,3,2]]
theorem Q011111 : Ok64 0 1 1 1 1 1 := ok64 [[0,1,2,3],[1,0,2,3]]
theorem Q100000 : Ok64 1 0 0 0 0 0 := ok64 [[0,2,3,1],[0,2,1,3],[0,3,2,1],[0,3,1,2],[0,1,2,3],[0,1,3,2],[2,0,3,1],[2,0,1,3],[2,3,0,1],[3,0,2,1],[3,0,1,2],[3,2,0,1]]
theorem Q100001 : Ok64 1 0 0 0 0 1 := ok64 [[0,2,1,3],[0,2,3,1],[0,1,2,3],[2,0,1,3],[2,0,3,1],[2,3,0,1]]
theorem Q100010 : Ok64 1 0 0 0 1 0 := ok64 [[0,2,1,3],[0,1,2,3],[0,1,3,2],[2,0,1,3]]
theorem Q100011 : Ok64 1 0 0 0 1 1 := ok64 [[0,2,1,3],[0,1,2,3],[2,0,1,3]]
theorem Q100100 : Ok64 1 0 0 1 0 0 := ok64 [[0,2,1,3],[0,2,3,1],[0,1,2,3],[0,1,3,2],[0,3,2,1],[0,3,1,2],[2,0,1,3],[2,0,3,1]]
theorem Q100101 : Ok64 1 0 0 1 0 1 := ok64 [[0,2,1,3],[0,2,3,1],[0,1,2,3],[2,0,1,3],[2,0,3,1]]
theorem Q100110 : Ok64 1 0 0 1 1 0 := ok64 [[0,2,1,3],[0,1,2,3],[0,1,3,2],[2,0,1,3]]
theorem Q100111 : Ok64 1 0 0 1 1 1 := ok64 [[0,2,1,3],[0,1,2,3],[2,0,1,3]]
theorem Q101000 : Ok64 1 0 1 0 0 0 := ok64 [[0,3,1,2],[0,1,3,2],[0,1,2,3],[3,0,1,2]]
theorem Q101001 : Ok64 1 0 1 0 0 1 := ok64 [[0,1,2,3]]
theorem Q101010 : Ok64 1 0 1 0 1 0 := ok64 [[0,1,2,3],[0,1,3,2]]
theorem Q101011 : Ok64 1 0 1 0 1 1 := ok64 [[0,1,2,3]]
theorem Q101100 : Ok64 1 0 1 1 0 0 := ok64 [[0,1,3,2],[0,1,2,3],[0,3,1,2]]
theorem Q101101 : Ok64 1 0 1 1 0 1 := ok64 [[0,1,2,3]]
theorem Q101110 : Ok64 1 0 1 1 1 0 := ok64 [[0,1,2,3],[0,1,3,2]]
theorem Q101111 : Ok64 1 0 1 1 1 1 := ok64 [[0,1,2,3]]
theorem Q110000 : Ok64 1 1 0 0 0 0 := ok64 [[0,3,1,2],[0,3,2,1],[0,1,3,2],[0,1,2,3],[0,2,3,1],[0,2,1,3],[3,0,1,2],[3,0,2,1]]
theorem Q110001 : Ok64 1 1 0 0 0 1 := ok64 [[0,1,2,3],[0,2,1,3],[0,2,3,1]]
theorem Q110010 : Ok64 1 1 0 0 1 0 := ok64 [[0,1,2,3],[0,1,3,2],[0,2,1,3]]
theorem Q110011 : Ok64 1 1 0 0 1 1 := ok64 [[0,1,2,3],[0,2,1,3]]
theorem Q110100 : Ok64 1 1 0 1 0 0 := ok64 [[0,1,2,3],[0,1,3,2],[0,2,1,3],[0,2,3,1],[0,3,1,2],[0,3,2,1]]
theorem Q110101 : Ok64 1 1 0 1 0 1 := ok64 [[0,1,2,3],[0,2,1,3],[0,2,3,1]]
theorem Q110110 : Ok64 1 1 0 1 1 0 := ok64 [[0,1,2,3],[0,1,3,2],[0,2,1,3]]
theorem Q110111 : Ok64 1 1 0 1 1 1 := ok64 [[0,1,2,3],[0,2,1,3]]
theorem Q111000 : Ok64 1 1 1 0 0 0 := ok64 [[0,3,1,2],[0,1,3,2],[0,1,2,3],[3,0,1,2]]
theorem Q111001 : Ok64 1 1 1 0 0 1 := ok64 [[0,1,2,3]]
theorem Q111010 : Ok64 1 1 1 0 1 0 := ok64 [[0,1,2,3],[0,1,3,2]]
theorem Q111011 : Ok64 1 1 1 0 1 1 := ok64 [[0,1,2,3]]
theorem Q111100 : Ok64 1 1 1 1 0 0 := ok64 [[0,1,3,2],[0,1,2,3],[0,3,1,2]]
theorem Q111101 : Ok64 1 1 1 1 0 1 := ok64 [[0,1,2,3]]
theorem Q111110 : Ok64 1 1 1 1 1 0 := ok64 [[0,1,2,3],[0,1,3,2]]
theorem Q111111 : Ok64 1 1 1 1 1 1 := ok64 [[0,1,2,3]]
theorem m1b_two (a : Nat) : m1b a = 0 ∨ m1b a = 1 := by
 unfold m1b; split
 ·exact .inl rfl
 ·exact .inr rfl
theorem two {P : Nat → Prop} (h0 : P 0) (h1 : P 1) {a : Nat} (h : a = 0 ∨ a = 1) : P a := h.elim (fun e => e ▸ h0) (fun e => e ▸ h1)
theorem all64 {a b c d e f : Nat} (ha : a = 0 ∨ a = 1) (hb : b = 0 ∨ b = 1) (hc : c = 0 ∨ c = 1) (hd : d = 0 ∨ d = 1) (he : e = 0 ∨ e = 1) (hf : f = 0 ∨ f = 1) : Ok64 a b c d e f := by
 refine two (P := fun x => Ok64 x b c d e f) ?_ ?_ ha <;> refine two (P := fun x => Ok64 _ x c d e f) ?_ ?_ hb <;> refine two (P := fun x => Ok64 _ _ x d e f) ?_ ?_ hc <;> refine two (P := fun x => Ok64 _ _ _ x e f) ?_ ?_ hd <;> refine two (P := fun x => Ok64 _ _ _ _ x f) ?_ ?_ he <;> refine two (P := fun x => Ok64 _ _ _ _ _ x) ?_ ?_ hf
 ·exact Q000000
 ·exact Q000001
 ·exact Q000010
 ·exact Q000011
 ·exact Q000100
 ·exact Q000101
 ·exact Q000110
 ·exact Q000111
 ·exact Q001000
 ·exact Q001001
 ·exact Q001010
 ·exact Q001011
 ·exact Q001100
 ·exact Q001101
 ·exact Q001110
 ·exact Q001111
 ·exact Q010000
 ·exact Q010001
 ·exact Q010010
 ·exact Q010011
 ·exact Q010100
 ·exact Q010101
 ·exact Q010110
 ·exact Q010111
 ·exact Q011000
 ·exact Q011001
 ·exact Q011010
 ·exact Q011011
 ·exact Q011100
 ·exact Q011101
 ·exact Q011110
 ·exact Q011111
 ·exact Q100000
 ·exact Q100001
 ·exact Q100010
 ·exact Q100011
 ·exact Q100100
 ·exact Q100101
 ·exact Q100110
 ·exact Q100111
 ·exact Q101000
 ·exact Q101001
 ·exact Q101010
 ·exact Q101011
 ·exact Q101100
 ·exact Q101101
 ·exact Q101110
 ·exact Q101111
 ·exact Q110000
 ·exact Q110001
 ·exact Q110010
 ·exact Q110011
 ·exact Q110100
 ·exact Q110101
 ·exact Q110110
 ·exact Q110111
 ·exact Q111000
 ·exact Q111001
 ·exact Q111010
 ·exact Q111011
 ·exact Q111100
 ·exact Q111101
 ·exact Q111110
 ·exact Q111111
theorem rest_at {sc nd hr : AV} {N : Nat → List Int} {rs : List (List Int)} (h : rA sc nd hr N rs = true) {x : Nat} (hx : x < 4) : restB sc nd hr N rs x = true := by
 unfold rA at h
 rw [Bool.and_eq_true,Bool.and_eq_true,Bool.and_eq_true] at h
 obtain ⟨h0,h1,h2,h3⟩ := h
 obtain rfl | rfl | rfl | rfl : x = 0 ∨ x = 1 ∨ x = 2 ∨ x = 3 := by exact arh ‹_›
 ·exact h0
 ·exact h1
 ·exact h2
 ·exact h3
theorem plain_ok (ns : List Int) (hl : ns.length ≤ 63) : ∃ σ' n,w244.1 ⟨env0 [.fl (ns.map .int)] 20,[(.tbl,0)]⟩ = some (.ret (.bool true),σ') ∧ σ'.heap[0]? = some (.tbl,n) := by
 obtain ⟨a,b,c,d,e,f,x,ha,hb,hc,hd,he,hf,hx,hn⟩ := needs_eq ns (by lia)
 obtain ⟨h,m0,m1,m2,hh⟩ := hours_eq ns (by lia)
 obtain ⟨rs,os,F,G⟩ := all64 (m1b_two a) (m1b_two b) (m1b_two c) (m1b_two d) (m1b_two e) (m1b_two f)
 obtain ⟨σ',n,e1,e2⟩ := chkT_ok (rest_at (G (.fl (ns.map .int)) (ndA (needN a b c d e f)) (hrsA h)) hx)
 exact ⟨σ',n,law_start (need_same a b c d e f) (need_ok' ha hb hc hd he hf) F hl hx hn ⟨m0,m1,m2⟩ hh e1,e2⟩
theorem p64 (P : Params) : ∃ o vs,(hd.heap_1 P).lookup 68 = some o ∧ o.data = .fields vs ∧ vs[11]? = some (.ref 64) := ⟨_,_,by rfl,by rfl,by rfl⟩
theorem tab_start {w : World} {s : Shared} {mean : ExcName → Option Value} {mg mb : Str → Option Value} {loose : List Str} (KX : (hd.heap_1 w.params).In s.heap) (T : Top view loose mean mg mb s.heap) : Tab s.heap #[] ∧ cStatics ≠ 64 := by
 have hm : mg (Str.ofString "covariance") = some (.ref 69) := mg_of (n := Str.ofString "covariance") KX T.g (by rfl)
 obtain ⟨o,fd,h1,h2,h3⟩ : ∃ o fd,(hd.heap_1 w.params).lookup 69 = some o ∧ o.data = .func fd ∧ fd.code = .ref 68 := ⟨_,_,by rfl,by rfl,by rfl⟩
 obtain ⟨d,hdd⟩ := Option.isSome_iff_exists.mp (show ((recsOf view).find? (fun e => e.name == Str.ofString "covariance")).isSome = true by kernel_rfl)
 obtain ⟨c,P,h4,B⟩ := based_of_top T hdd hm (KX _ _ h1) h2
 rw [h3] at h4
 cases h4
 obtain ⟨o',vs,k1,k2,k3⟩ := p64 w.params
 obtain ⟨⟨o'',vs',k4,k5,k6,k7⟩,k8⟩ := id B.tab
 have := KX _ _ k1
 rw [this] at k4; cases k4
 rw [k2] at k6; cases k6
 rw [k3] at k7; cases k7
 exact ⟨⟨B.code,B.tab⟩,Ne.symm B.notStatics⟩
noncomputable def Plain : Prop := ∀ ns : List Int,ns.length ≤ 63 → ∃ σ' n,w244.1 ⟨env0 [.fl (ns.map .int)] 20,[(.tbl,0)]⟩ = some (.ret (.bool true),σ') ∧ σ'.heap[0]? = some (.tbl,n)
theorem law_run (plain : Plain) {w : World} {s : Shared} {mean : ExcName → Option Value} {mg mb : Str → Option Value} {loose : List Str} {l : Addr} {vs : List Value} {ns : List Int} {Q : Value → Shared → Prop} {E : Value → Shared → Prop} (KX : (hd.heap_1 w.params).In s.heap) (T : Top view loose mean mg mb s.heap)
  (hl : IsLd s.heap l vs) (hi : IntsAre vs ns) (hn : ns.length ≤ 63) (hg : s.gens = #[]) (hQ : ∀ s',OldK s.heap s'.heap → s'.os = s.os → AllBare s'.gens → Q (.bool true) s') : wpAny (model prg w) callerA (call (.ref 244) [.ref l]) Q E s := by
 obtain ⟨Tb,h64⟩ := tab_start KX T
 refine w244.2 w s _ loose mg mb l vs ns (.bool true) KX (topRead_of T) (bmod_of_top T) Tb h64 hl hi (plain ns hn) Q E fun K γ cv s' hv hO hos hb => ?_
 cases hv
 exact hQ s' hO hos (hb (by rw [hg]; intro y hy; simp at hy))
theorem ld_of {P : Params} {h : Heap} {l : Addr} {vs : List Value} {d : WData} {xs : List WData} (hd' : d = .list xs) (hW : Well P h (.ref l) d) (hL : h.IsList l vs.toArray) : IsLd h l vs := by
 subst hd'
 cases hW with
 | list e _ =>
  obtain ⟨o,h1,h2,n,h3⟩ := hL
  rw [e] at h1; cases h1
  exact ⟨_,e,rfl,⟨n,h3⟩,rfl⟩
set_option maxRecDepth 100000 in
set_option maxHeartbeats 8000000 in
theorem fin (plain : Plain) : PySem.Challenge.rw_oc0181_01.Holds := hd (by
 k_fill
 intro w s₀ s₁ mg mb G Y fa o pm cd doc dV kV ho hd' hcd hD hmg hg args vals as hpre hlay hrd hwl hlo
 clear hd' hcd hD
 have KX := kIn_of Y
 refine Ground.open G ?_
 intro T B D TE TW
 clear B D TE TW
 have e244 : mg (Str.ofString "law") = some (.ref 244) := mg_of KX T.g (by rfl)
 replace hmg := Eq.trans (Eq.symm e244) hmg
 cases hmg
 clear e244 Y ho
 wrow_args hpre hlay hrd hwl hlo
 rename Well _ _ _ _ => hW
 rename IntsAre _ _ => hI
 rename Heap.IsList _ _ _ => hL
 rename ¬ _ < _ => hc
 refine law_run plain KX T (ld_of rfl hW hL) hI (by omega) hg fun s' hO hos hb => ?_
 refine ⟨.inl ⟨_,.bool true,[],rfl,fun _ => rfl,.bool true,?_,fun _ => ⟨List.nodup_nil,fun a ha => nomatch ha⟩⟩,hO,hos,hb⟩
 first | rfl | with_unfolding_all rfl | kernel_rfl | (trace_state; fail))
end Mine
theorem PySem.Challenge.cw_oc0181_01_holds : PySem.Challenge.rw_oc0181_01.Holds :=
 Mine.fin Mine.plain_ok
