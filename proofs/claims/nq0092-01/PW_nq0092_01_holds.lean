import PyProof.Rows.All
import Wide.All
import OpenK.AllK
import Wide.FinOn
import KE.KSortTup
import PySem.Challenge.RW_nq0092_01
open PySem PySem.W PyProof.Rows
set_option Elab.async false
set_option maxRecDepth 100000
set_option maxHeartbeats 8000000
namespace Mine
open_top hd for PySem.Challenge.rw_nq0092_01
end Mine
open PySem.Calls
namespace Mine

/-- the written part -/
noncomputable abbrev KK (w : World) : Frag := hd.heap_39 w.params

/-- what stands at the top, in a heap -/
structure Gd (w : World) (h : Heap) : Prop where
  K : (KK w).In h
  T : ∃ p loose mg mb, TopRead p loose mg mb h

abbrev Keep (h h' : Heap) : Prop := ∀ b o, h.get? b = some o → h'.get? b = some o

theorem Gd.keeps {w : World} {h h' : Heap} (G : Gd w h) (k : Keep h h') : Gd w h' :=
  ⟨G.K.keeps k, let ⟨_, _, _, _, T⟩ := G.T; ⟨_, _, _, _, T.keeps k⟩⟩
theorem Gd.nolimit {w : World} {h : Heap} (G : Gd w h) : h.NoLimit := let ⟨_, _, _, _, T⟩ := G.T; T.nolimit

/-- room for n more frames -/
structure Room (A : Around) (n : Nat) : Prop where
  handled : A.handled = none
  depth : A.depth + n < recursionLimit
  units : A.units + 8 * n + 100 < cLine
theorem Room.deeper {A : Around} {n : Nat} {env : Env} (r : Room A (n + 1)) : Room (A.deeper env) n :=
  ⟨r.handled, by have := r.depth; show A.depth + 1 + n < _; lia, by have := r.units; show A.units + 3 + 8 * n + 100 < _; lia⟩
theorem Room.less {A : Around} {n k : Nat} (r : Room A n) (h : k ≤ n) : Room A k :=
  ⟨r.handled, by have := r.depth; lia, by have := r.units; lia⟩
theorem Room.lt {A : Around} {n : Nat} (r : Room A n) : A.depth < recursionLimit := by have := r.depth; lia
theorem Room.u {A : Around} {n : Nat} (r : Room A n) : A.units < cLine := by have := r.units; lia
theorem Room.u64 {A : Around} {n : Nat} (r : Room A n) : A.units + 64 < cLine := by have := r.units; lia

def upd (m : Str → Option Value) (x : Str) (v : Value) : Str → Option Value := fun y => if y = x then some v else m y
theorem upd_eq {m : Str → Option Value} {x : Str} {v : Value} : upd m x v x = some v := if_pos rfl
theorem upd_ne {m : Str → Option Value} {x y : Str} {v : Value} {r : Option Value} (h : (y == x) = false) (e : m y = r) : upd m x v y = r :=
  (if_neg (by intro q; rw [q] at h; simp at h)).trans e

section
variable {prog : Program} {w : World} {A : Around} {E : Value → Shared → Prop} {h : Heap} {g : Array GenState} {d : Drawn} {t : Nat} {o : OsState}
  {h₀ : Heap} {L : Addr} {m : Str → Option Value} {news : List (Addr × Obj)} {name : Str} {scope : Scope} {a : Addr} {cd : Value}

/-! names -/
theorem nmL {x : Str} {pos : Pos} {v : Value} {Q : Value → Shared → Prop} (F : Fr h₀ L h m) (hv : m x = some v) (q : Q v ⟨h, g, d, t, o⟩)
    (hk : scope.kind = .function := by rfl) (hl : (envOf name scope L a cd).kindOf x = some .local := by rfl)
    (hd : (x == ("__debug__" : Str)) = false := by decide) :
    wpAny (model prog w) A (eval (.Name x pos) (envOf name scope L a cd)) Q E ⟨h, g, d, t, o⟩ := ld (s := ⟨h, g, d, t, o⟩) F hv q hk hl hd
theorem nmG {x : Str} {pos : Pos} {v : Value} {Q : Value → Shared → Prop} (F : Fr h₀ L h m) (G : Gd w h₀) (e : nsIn (KK w) mainGlobals x = some (some v)) (q : Q v ⟨h, g, d, t, o⟩)
    (hk : scope.kind = .function := by rfl) (hx : (envOf name scope L a cd).kindOf x = some .globalImplicit := by rfl)
    (hd : (x == ("__debug__" : Str)) = false := by decide) :
    wpAny (model prog w) A (eval (.Name x pos) (envOf name scope L a cd)) Q E ⟨h, g, d, t, o⟩ := by
  obtain ⟨_, _, _, _, T⟩ := G.T
  exact name_K (s := ⟨h, g, d, t, o⟩) F G.K T e q hk hx hd
theorem nmB {x : Str} {pos : Pos} {v : Value} {Q : Value → Shared → Prop} (F : Fr h₀ L h m) (G : Gd w h₀) (e : nsIn (KK w) mainGlobals x = some none) (hv : bootBuiltins x = some v) (hn : x ≠ "__name__")
    (q : Q v ⟨h, g, d, t, o⟩) (hk : scope.kind = .function := by rfl) (hx : (envOf name scope L a cd).kindOf x = some .globalImplicit := by rfl)
    (hd : (x == ("__debug__" : Str)) = false := by decide) :
    wpAny (model prog w) A (eval (.Name x pos) (envOf name scope L a cd)) Q E ⟨h, g, d, t, o⟩ := by
  obtain ⟨_, _, _, _, T⟩ := G.T
  exact name_B (s := ⟨h, g, d, t, o⟩) F G.K T e hv hn q hk hx hd
theorem sto {x : Str} {v : Value} {Q : Unit → Shared → Prop} (F : Fr h₀ L h m) (N : News h₀ L h news)
    (q : ∀ h', Fr h₀ L h' (upd m x v) → News h₀ L h' news → Q () ⟨h', g, d, t + 1, o⟩)
    (hk : scope.kind = .function := by rfl) (hl : (envOf name scope L a cd).kindOf x = some .local := by rfl) :
    wpAny (model prog w) A (storeName (envOf name scope L a cd) x v) Q E ⟨h, g, d, t, o⟩ := stN (s := ⟨h, g, d, t, o⟩) F N q hk hl
end

/-- entering a def of the top -/
theorem enter {prog : Program} {w : World} {A : Around} {s : Shared} {h₀ : Heap} {R : Result → Shared → Prop} {name qual : Str} {params : Arguments} {body : List Stmt} {scope : Scope}
    {dV kV doc pm cdv ct oc : Value} {an od : Option Addr} {osl : Array (Option Value)} {f : Addr} {args : Args} {binds : List (Str × Value)}
    (G : Gd w h₀) (k : Keep h₀ s.heap) (hsz : h₀.objs.size ≤ s.heap.objs.size)
    (hroom : A.depth < recursionLimit)
    (ho : (KK w).lookup f = some ⟨oc, od, .func (fnOf name qual params body scope dV kV doc pm an cdv ct), osl⟩) (hcd : codeIn (KK w) cdv qual = true)
    (hbind : bindArgs (fnOf name qual params body scope dV kV doc pm an cdv ct) args = pure binds) (hloc : ∀ y ∈ binds, scope.names.lookup y.1 = some .local)
    (h : ∀ h₁, Fr h₀ s.heap.objs.size h₁ (fun y => binds.reverse.lookup y) → Keep s.heap h₁ →
      wpAny (model prog w) (A.deeper (envOf qual scope s.heap.objs.size f cdv)) (execs body (envOf qual scope s.heap.objs.size f cdv))
        (fun fl s' => R (.ok (.ret (match fl with | .ret v => v | _ => .none))) s')
        (fun e s' => wpAny (model prog w) (A.deeper (envOf qual scope s.heap.objs.size f cdv)) (leaving (envOf qual scope s.heap.objs.size f cdv) e) (fun _ s'' => R (.error e) s'') (fun e' s'' => R (.error e') s'') s')
        ⟨h₁, s.gens, s.drawn, s.toks + binds.length, s.os⟩)
    (hco : scope.isCoroutine = false := by rfl) (hgen : scope.isGenerator = false := by rfl) (hk : scope.kind = .function := by rfl)
    (hcell : ∀ x ∈ scope.names, x.2 ≠ .cell := by decide) : codeAny (model prog w) A (.call (.ref f) args) R s := by
  have X := G.K.keeps k
  refine codeAny_call_def (fd := fnOf name qual params body scope dV kV doc pm an cdv ct) (body := body) (binds := binds) hroom (X _ _ ho) rfl (G.nolimit.keeps k) (codeRec_of X hcd) rfl (BindsTo.of_eq hbind) hcell hloc (fun h₁ hns hk₁ => ?_) hco hgen hk
  exact h h₁ ⟨hns, fun b o e => hk₁ b o (k b o e), hsz⟩ hk₁

/-- what a def's end hands on -/
def Ret (Q : Value → Shared → Prop) (f : Flow) (s : Shared) : Prop := match f with
  | .ret v => Q v s
  | _ => Q .none s

/-- a call of a def of the top that does not raise -/
theorem callw {prog : Program} {w : World} {A : Around} {h : Heap} {gs : Array GenState} {dr : Drawn} {t : Nat} {os : OsState} {h₀ : Heap} {Q : Value → Shared → Prop} {E : Value → Shared → Prop} {name qual : Str} {params : Arguments} {body : List Stmt} {scope : Scope}
    {dV kV doc pm cdv ct oc : Value} {an od : Option Addr} {osl : Array (Option Value)} {f : Addr} {vals : List Value} {binds : List (Str × Value)} {k : Nat}
    (G : Gd w h₀) (hk : Keep h₀ h) (hsz : h₀.objs.size ≤ h.objs.size) (r : Room A (k + 1))
    (ho : (KK w).lookup f = some ⟨oc, od, .func (fnOf name qual params body scope dV kV doc pm an cdv ct), osl⟩) (hcd : codeIn (KK w) cdv qual = true)
    (hbind : bindArgs (fnOf name qual params body scope dV kV doc pm an cdv ct) ⟨vals, []⟩ = pure binds) (hloc : ∀ y ∈ binds, scope.names.lookup y.1 = some .local)
    (hb : ∀ L h₁ A' E' tk, L = h.objs.size → Room A' k → Fr h₀ L h₁ (fun y => binds.reverse.lookup y) → Keep h h₁ →
      wpAny (model prog w) A' (execs body (envOf qual scope L f cdv)) (Ret Q) E' ⟨h₁, gs, dr, tk, os⟩)
    (hco : scope.isCoroutine = false := by rfl) (hgen : scope.isGenerator = false := by rfl) (hfk : scope.kind = .function := by rfl)
    (hcell : ∀ x ∈ scope.names, x.2 ≠ .cell := by decide) : wpAny (model prog w) A (call (.ref f) vals) Q E ⟨h, gs, dr, t, os⟩ := by
  refine wpAny_call (enter (s := ⟨h, gs, dr, t, os⟩) G hk hsz r.lt ho hcd hbind hloc (fun h₁ F hk₁ => ?_) hco hgen hfk hcell)
  refine wpAny_mono (hb _ h₁ _ _ _ rfl r.deeper F hk₁) (fun fl s' hq => ?_) fun _ _ e => e
  cases fl <;> exact hq

/-- the same, where what stands around is known and nothing leaves by a raise -/
theorem callr {prog : Program} {w : World} {A : Around} {h : Heap} {gs : Array GenState} {dr : Drawn} {t : Nat} {os : OsState} {h₀ : Heap} {Q : Value → Shared → Prop} {E : Value → Shared → Prop} {name qual : Str} {params : Arguments} {body : List Stmt} {scope : Scope}
    {dV kV doc pm cdv ct oc : Value} {an od : Option Addr} {osl : Array (Option Value)} {f : Addr} {vals : List Value} {binds : List (Str × Value)} {k : Nat}
    (G : Gd w h₀) (hk : Keep h₀ h) (hsz : h₀.objs.size ≤ h.objs.size) (r : Room A (k + 1))
    (ho : (KK w).lookup f = some ⟨oc, od, .func (fnOf name qual params body scope dV kV doc pm an cdv ct), osl⟩) (hcd : codeIn (KK w) cdv qual = true)
    (hbind : bindArgs (fnOf name qual params body scope dV kV doc pm an cdv ct) ⟨vals, []⟩ = pure binds) (hloc : ∀ y ∈ binds, scope.names.lookup y.1 = some .local)
    (hb : ∀ L h₁ A' tk, L = h.objs.size → A' = A.deeper (envOf qual scope L f cdv) → Room A' k → Fr h₀ L h₁ (fun y => binds.reverse.lookup y) → Keep h h₁ →
      wpAny (model prog w) A' (execs body (envOf qual scope L f cdv)) (Ret Q) (fun _ _ => False) ⟨h₁, gs, dr, tk, os⟩)
    (hco : scope.isCoroutine = false := by rfl) (hgen : scope.isGenerator = false := by rfl) (hfk : scope.kind = .function := by rfl)
    (hcell : ∀ x ∈ scope.names, x.2 ≠ .cell := by decide) : wpAny (model prog w) A (call (.ref f) vals) Q E ⟨h, gs, dr, t, os⟩ := by
  refine wpAny_call (enter (s := ⟨h, gs, dr, t, os⟩) G hk hsz r.lt ho hcd hbind hloc (fun h₁ F hk₁ => ?_) hco hgen hfk hcell)
  refine wpAny_mono (hb _ h₁ _ _ rfl rfl r.deeper F hk₁) (fun fl s' hq => ?_) fun _ _ e => e.elim
  cases fl <;> exact hq

theorem frame_size {h₀ h : Heap} {L : Addr} {m : Str → Option Value} {n : Nat} (F : Fr h₀ L h m) (hL : L = n) : n ≤ h.objs.size := by
  have : @LT.lt Nat _ L h.objs.size := F.ns.lt
  subst hL; exact Nat.le_of_lt this

/-- the ledger in the callee -/
theorem newsAt {h₀ h h₁ : Heap} {L : Addr} {news : List (Addr × Obj)} (hk : Keep h h₁) (hL : L = h.objs.size) (hn : ∀ p ∈ news, h.get? p.1 = some p.2 ∧ h₀.get? p.1 = none) : News h₀ L h₁ news :=
  fun p hp => ⟨hk _ _ (hn p hp).1, by rw [hL]; exact Nat.ne_of_lt (Heap.lt_size (hn p hp).1), (hn p hp).2⟩

/-! handing one object of the ledger to a callee -/
section
variable {w : World} {h₀ h h' : Heap} {L l : Addr} {m : Str → Option Value} {rest : List (Addr × Obj)} {o o' : Obj}
theorem hid_base (F : Fr h₀ L h m) (N : News h₀ L h ((l, o) :: rest)) : Keep h₀ (hideAll h [l]) := fun b x e =>
  hideAll_get _ (F.keep b x e) (by
    intro q
    have := (N _ (.head _)).2.2
    rw [List.mem_singleton.mp q, this] at e; cases e)
theorem hid_gd (G : Gd w h₀) (F : Fr h₀ L h m) (N : News h₀ L h ((l, o) :: rest)) : Gd w (hideAll h [l]) := G.keeps (hid_base F N)
theorem hid_keep : Keep (hideAll h [l]) h := fun _ _ e => of_hideAll _ e
theorem hid_size : (hideAll h [l]).objs.size ≤ h.objs.size := Nat.le_of_eq (hideAll_size _ _)
theorem hid_none : (hideAll h [l]).get? l = none := hideAll_none _ (.head _)
theorem hid_get {a : Addr} {x : Obj} (e : h.get? a = some x) (hne : a ≠ l) : (hideAll h [l]).get? a = some x := hideAll_get _ e (by simpa using hne)
theorem after_fr (F : Fr h₀ L h m) (N : News h₀ L h ((l, o) :: rest)) (k : Keep (hideAll h [l]) h') : Fr h₀ L h' m := by
  obtain ⟨oL, es, ep, hL, r⟩ := F.ns
  exact ⟨⟨oL, es, ep, k _ _ (hid_get hL (Ne.symm (N _ (.head _)).2.1)), r⟩, fun b x e => k _ _ (hid_base F N b x e), F.above⟩
theorem after_news (N : News h₀ L h ((l, o) :: rest)) (hr : ∀ p ∈ rest, p.1 ≠ l) (k : Keep (hideAll h [l]) h') (hl : h'.get? l = some o') : News h₀ L h' ((l, o') :: rest) := by
  intro p hp
  rcases List.mem_cons.mp hp with rfl | hp
  · exact ⟨hl, (N _ (.head _)).2⟩
  · exact ⟨k _ _ (hid_get (N _ (.tail _ hp)).1 (hr p hp)), (N _ (.tail _ hp)).2⟩
theorem kept_fr (F : Fr h₀ L h m) (k : Keep h h') : Fr h₀ L h' m := ⟨F.ns.keeps k, fun b x e => k _ _ (F.keep b x e), F.above⟩
theorem kept_news (N : News h₀ L h rest) (k : Keep h h') : News h₀ L h' rest := fun p hp => ⟨k _ _ (N p hp).1, (N p hp).2⟩
theorem news_perm {rest' : List (Addr × Obj)} (N : News h₀ L h rest) (k : ∀ p ∈ rest', p ∈ rest) : News h₀ L h rest' := fun p hp => N p (k p hp)
end

section
variable {α : Type} {a : α} {r l : List α}
theorem subC (h : a ∈ l) (k : ∀ p ∈ r, p ∈ l) : ∀ p ∈ a :: r, p ∈ l := List.forall_mem_cons.mpr ⟨h, k⟩
theorem subT (k : ∀ p ∈ r, p ∈ l) : ∀ p ∈ r, p ∈ a :: l := fun p hp => .tail _ (k p hp)
theorem subN : ∀ p ∈ ([] : List α), p ∈ l := fun _ h => nomatch h
theorem subR : ∀ p ∈ l, p ∈ l := fun _ h => h
end

/-! calls -/
section
variable {prog : Program} {w : World} {A : Around} {E : Value → Shared → Prop} {s : Shared} {env : Env} {pos : Pos} {e : Expr} {rest : List Expr} {Q : Value → Shared → Prop}
theorem c_def {f : Addr} (hk : keepIn (KK w) (.ref f) = true)
    (h : wpAny (model prog w) A (spliced (backTo pos (starEach (e :: rest) env))) (fun vs s₁ => (KK w).In s₁.heap ∧ wpAny (model prog w) A (call (.ref f) vs) Q E s₁) E s)
    (he : starEach (e :: rest) env = (false, eval e env) :: starEach rest env := by rfl) (hplain : (backTo pos (starEach rest env)).any (·.1) = false := by rfl) :
    wpAny (model prog w) A (callWith pos (.ref f) [] (backTo pos (starEach (e :: rest) env)) []) Q E s := by
  rw [he] at h ⊢
  exact callWith_of (by show ((false || (backTo pos (starEach rest env)).any (·.1)) || false) = false; rw [hplain]; rfl) (keeps_K hk) (evalArgs_plain h)
theorem c_blt {id : String} {first : List Value} (h : wpAny (model prog w) A (spliced (backTo pos (starEach (e :: rest) env))) (fun vs s₁ => wpAny (model prog w) A (call (.builtin id) (first ++ vs)) Q E s₁) E s)
    (he : starEach (e :: rest) env = (false, eval e env) :: starEach rest env := by rfl) (hplain : (backTo pos (starEach rest env)).any (·.1) = false := by rfl) :
    wpAny (model prog w) A (callWith pos (.builtin id) first (backTo pos (starEach (e :: rest) env)) []) Q E s := by
  rw [he] at h ⊢
  exact callWith_builtin (by show (false || (backTo pos (starEach rest env)).any (·.1)) = false; rw [hplain]; rfl) (evalArgs_plain h)
theorem c_blt0 {id : String} {first : List Value} (h : wpAny (model prog w) A (call (.builtin id) (first ++ [])) Q E s) :
    wpAny (model prog w) A (callWith pos (.builtin id) first (backTo pos (starEach [] env)) []) Q E s := callWith_builtin rfl (evalArgs_nil3 h)
end

end Mine
namespace Mine

/-- Python's order of tuples of ints -/
def lexLt : List Int → List Int → Bool
  | x :: xs, y :: ys => if x = y then lexLt xs ys else decide (x < y)
  | [], _ :: _ => true
  | _, [] => false

theorem sub_tuple : isSubtype (.type "tuple") (.type "tuple") = pure true := by rw [isSubtype_type]; kernel_rfl

section
variable {prog : Program} {w : World} {A : Around} {E : Value → Shared → Prop} {s : Shared}

theorem lt_tup {a b : Addr} {vs us : List Value} {xs ys : List Int} {Q : Value → Shared → Prop} (ha : IsTup s.heap a vs.toArray) (hb : IsTup s.heap b us.toArray)
    (hi : IntsAre vs xs) (hj : IntsAre us ys) (hu : A.units < cLine) (h : Q (.bool (lexLt xs ys)) s) : wpAny (model prog w) A (compareOp .Lt (.ref a) (.ref b)) Q E s := by
  show wpAny (model prog w) A (richCompare .Lt (.ref a) (.ref b)) Q E s
  refine wpAny_richCompare_same_room (op := .Lt) (T := "tuple") ha.typeIs hb.typeIs F.slot_tuple_lt (wpAny_call_entry F.slot_tuple_lt ha.typeIs F.entry_tuple_lt ?_ (F.args_tuple_lt_2 _ _)) hu
  refine wpAny_bind (m := slotArgs "__lt__" 1 _) (wpAny_pure ?_)
  refine wpAny_bind (wpAny_isInstance hb.typeIs sub_tuple ?_)
  simp only [Bool.not_true, Bool.false_eq_true, if_false]
  refine wpAny_bind (tupleItemsOf_ ha (wpAny_bind (tupleItemsOf_ hb ?_)))
  refine wpAny_bind (wpAny_forIn_list _
    (fun rest b s' => s' = s ∧ b = (none, ()) ∧ ∃ vs' us' xs' ys', rest = List.zip vs' us' ∧ IntsAre vs' xs' ∧ IntsAre us' ys' ∧ lexLt xs ys = lexLt xs' ys' ∧ vs.length + us'.length = us.length + vs'.length)
    _ ?turn ?fin _ _ ⟨rfl, rfl, vs, us, xs, ys, rfl, hi, hj, rfl, by lia⟩)
  case turn =>
    rintro ⟨x, y⟩ rest b s' ⟨rfl, rfl, vs', us', xs', ys', hz, hi', hj', hl, hn⟩
    cases hi' with
    | nil => cases hz
    | cons i t hi'' =>
      cases hj' with
      | nil => cases hz
      | cons j u hj'' =>
        simp only [List.zip_cons_cons, List.cons.injEq, Prod.mk.injEq] at hz
        obtain ⟨⟨rfl, rfl⟩, rfl⟩ := hz
        dsimp only
        refine wpAny_bind (wpAny_eqBool_int ?_)
        by_cases hij : i = j
        · subst hij
          simp only [beq_self_eq_true, Bool.not_true, Bool.false_eq_true, if_false]
          refine wpAny_pure ⟨rfl, rfl, _, _, _, _, rfl, hi'', hj'', ?_, ?_⟩
          · rw [hl]; simp [lexLt]
          · simp only [List.length_cons] at hn; lia
        · have hb : (i == j) = false := beq_eq_false_iff_ne.mpr hij
          simp only [hb, Bool.not_false, if_true]
          refine wpAny_bind (wpAny_rule (wpAny_bind ?_))
          show wpAny (model prog w) A.in1 (compareOp .Lt (.int i t) (.int j u)) _ _ _
          refine wpAny_lt_int ?_
          refine wpAny_bind (wpAny_pure (wpAny_pure ?_))
          refine wpAny_pure ⟨_, rfl, (fun e => nomatch e), ?_⟩
          have e : lexLt xs ys = decide (i < j) := by rw [hl]; simp [lexLt, hij]
          rw [← e]; exact h
  case fin =>
    rintro b s' ⟨rfl, rfl, vs', us', xs', ys', hz, hi', hj', hl, hn⟩
    refine wpAny_pure ⟨_, rfl, (fun e => nomatch e), ?_⟩
    show Q (.bool (decide (vs.toArray.size < us.toArray.size))) _
    have e : decide (vs.toArray.size < us.toArray.size) = lexLt xs ys := by
      rw [hl, List.size_toArray, List.size_toArray]
      cases hi' with
      | nil =>
        cases hj' with
        | nil => simp only [lexLt]; simp at hn; simp [hn]
        | cons j u hj'' => simp only [lexLt, List.length_cons, List.length_nil] at hn ⊢; simp; lia
      | cons i t hi'' =>
        cases hj' with
        | nil => simp only [lexLt, List.length_cons, List.length_nil] at hn ⊢; simp; lia
        | cons j u hj'' => cases hz
    rw [e]; exact h
end
end Mine
namespace Mine

/-! statements at the head of a block -/
def Then (M : Model) (A : Around) (env : Env) (rest : List Stmt) (Q : Flow → Shared → Prop) (E : Value → Shared → Prop) (f : Flow) (s' : Shared) : Prop :=
  match f with
  | .next => wpAny M A (execs rest env) Q E s'
  | f => Q f s'

section
variable {M : Model} {A : Around} {E : Value → Shared → Prop} {s : Shared} {env : Env} {rest : List Stmt} {Q : Flow → Shared → Prop}
theorem s_seq {st : Stmt} (h : wpAny M A (exec st env) (Then M A env rest Q E) E s) : wpAny M A (execs (st :: rest) env) Q E s := by
  refine wpAny_execs_cons (wpAny_mono h (fun f s' h' => ?_) fun _ _ x => x)
  cases f <;> exact h'
theorem s_nil (h : Q .next s) : wpAny M A (execs [] env) Q E s := wpAny_execs_nil h
theorem then_next (h : wpAny M A (execs rest env) Q E s) : Then M A env rest Q E .next s := h
theorem then_ret {v : Value} (h : Q (.ret v) s) : Then M A env rest Q E (.ret v) s := h
theorem then_brk (h : Q .brk s) : Then M A env rest Q E .brk s := h
theorem then_cont (h : Q .cont s) : Then M A env rest Q E .cont s := h
theorem s_asg {x : Str} {p pos : Pos} {value : Expr} (h : wpAny M A (eval value env) (fun v s₁ => wpAny M A (storeName env x v) (fun _ s₂ => wpAny M A (execs rest env) Q E s₂) E s₁) E s)
    (hs : swapsWith value (some (.Name x p)) pos.line env = pure false := by rfl) : wpAny M A (execs (.Assign [.Name x p] value pos :: rest) env) Q E s := s_seq (wpAny_Assign_Name h hs)
theorem s_sub {ob i : Expr} {p pos : Pos} {value : Expr} (h : wpAny M A (eval value env) (fun v s₁ => wpAny M A (eval ob env) (fun ov s₂ => wpAny M A (eval i env) (fun iv s₃ => wpAny M A (setItem ov iv v) (fun _ s₄ => wpAny M A (execs rest env) Q E s₄) E s₃) E s₂) E s₁) E s)
    (hs : swapsWith value (some (.Subscript ob i p)) pos.line env = pure false := by rfl) : wpAny M A (execs (.Assign [.Subscript ob i p] value pos :: rest) env) Q E s := s_seq (wpAny_Assign_Subscript h hs)
theorem s_aug {x : Str} {p pos : Pos} {op : Operator} {value : Expr} (h : wpAny M A (loadName env x) (fun old s₁ => wpAny M A (eval value env) (fun v s₂ => wpAny M A (inplaceOp op old v) (fun r s₃ => wpAny M A (storeName env x r) (fun _ s₄ => wpAny M A (execs rest env) Q E s₄) E s₃) E s₂) E s₁) E s) :
    wpAny M A (execs (.AugAssign (.Name x p) op value pos :: rest) env) Q E s := s_seq (wpAny_AugAssign_Name h)
theorem s_if {test : Expr} {body orelse : List Stmt} {pos : Pos} (h : wpAny M A (isTrue test env (eval test env)) (fun b s₂ => if b then wpAny M A (execs body env) (Then M A env rest Q E) E s₂ else wpAny M A (execs orelse env) (Then M A env rest Q E) E s₂) E s) :
    wpAny M A (execs (.If test body orelse pos :: rest) env) Q E s := s_seq (wpAny_If h)
theorem s_ret {e : Expr} {pos : Pos} (h : wpAny M A (eval e env) (fun v => Q (.ret v)) E s) : wpAny M A (execs (.Return (some e) pos :: rest) env) Q E s := s_seq (wpAny_Return_some h)
theorem s_brk {pos : Pos} (h : Q .brk s) : wpAny M A (execs (.Break pos :: rest) env) Q E s := s_seq (wpAny_Break h)
theorem s_cont {pos : Pos} (h : Q .cont s) : wpAny M A (execs (.Continue pos :: rest) env) Q E s := s_seq (wpAny_Continue h)
theorem s_expr {e : Expr} {pos : Pos} (h : wpAny M A (eval e env) (fun v s' => match v with | .ref _ => False | _ => wpAny M A (execs rest env) Q E s') E s)
    (hi : interactive env = false := by rfl) (hs : swapsWith e none pos.line env = pure false := by rfl) : wpAny M A (execs (.Expr e pos :: rest) env) Q E s := s_seq (wpAny_Expr h hi hs)
theorem s_while {test : Expr} {body orelse : List Stmt} {pos : Pos} (h : codeAny M A (.whileLoop test body orelse env) (fun r s' => match r with | .ok f => Then M A env rest Q E f s' | .error e => cameBackBy M A env E e s') s) :
    wpAny M A (execs (.While test body orelse pos :: rest) env) Q E s := s_seq (wpAny_While h)
theorem s_for {target iter : Expr} {body orelse : List Stmt} {pos : Pos} (h : wpAny M A (eval iter env) (fun x s₁ => wpAny M A (pyIter x) (fun it s₂ =>
      codeAny M A (.forLoop target it body orelse env) (fun r s' => match r with | .ok f => Then M A env rest Q E f s' | .error e => cameBackBy M A env E e s') s₂) E s₁) E s)
    (hs : ∀ x, foldedSetIterable iter env x = pure x := by intro _; rfl) : wpAny M A (execs (.For target iter body orelse pos :: rest) env) Q E s := s_seq (wpAny_For h hs)
end

theorem s_ifJ {M : Model} {A : Around} {E : Value → Shared → Prop} {s : Shared} {env : Env} {rest : List Stmt} {Q : Flow → Shared → Prop} {test : Expr} {body orelse : List Stmt} {pos : Pos} (J : Shared → Prop)
    (h : wpAny M A (isTrue test env (eval test env)) (fun b s₂ => if b then wpAny M A (execs body env) (fun f s' => f = .next ∧ J s') E s₂ else wpAny M A (execs orelse env) (fun f s' => f = .next ∧ J s') E s₂) E s)
    (done : ∀ s, J s → wpAny M A (execs rest env) Q E s) : wpAny M A (execs (.If test body orelse pos :: rest) env) Q E s := by
  refine s_if (wpAny_mono h (fun b s₂ h₂ => ?_) fun _ _ e => e)
  cases b <;> simp only [Bool.false_eq_true, if_false, if_true] at h₂ ⊢ <;> exact wpAny_mono h₂ (fun f s' h' => by obtain ⟨rfl, hj⟩ := h'; exact then_next (done _ hj)) fun _ _ e => e

/-! loops that do not raise -/
def Turn (I : Nat → Shared → Prop) (J : Shared → Prop) (Q : Flow → Shared → Prop) (n : Nat) (f : Flow) (s : Shared) : Prop := match f with
  | .ret v => Q (.ret v) s
  | .brk => J s
  | _ => ∃ m, m < n ∧ I m s
section
variable {prog : Program} {w : World} {A : Around} {E : Value → Shared → Prop} {s : Shared} {env : Env} {rest : List Stmt} {Q : Flow → Shared → Prop}
theorem s_whileJ {test : Expr} {body : List Stmt} {pos : Pos} (I : Nat → Shared → Prop) (J : Shared → Prop) (n : Nat) (h0 : I n s)
    (turn : ∀ n s, I n s → wpAny (model prog w) A (isTrue test env (eval test env)) (fun b s₂ => if b then wpAny (model prog w) A (execs body env) (Turn I J Q n) (fun _ _ => False) s₂ else J s₂) (fun _ _ => False) s)
    (done : ∀ s, J s → wpAny (model prog w) A (execs rest env) Q E s) : wpAny (model prog w) A (execs (.While test body [] pos :: rest) env) Q E s := by
  refine s_while (codeAny_whileLoop I (fun n s hI => ?_) n h0)
  refine wpAny_mono (turn n s hI) (fun b s₂ h₂ => ?_) fun _ _ x => x.elim
  cases b with
  | false => exact wpAny_execs_nil (then_next (done _ (by simpa using h₂)))
  | true =>
    simp only [if_true] at h₂ ⊢
    refine wpAny_mono h₂ (fun f s₃ h₃ => ?_) fun _ _ x => x.elim
    cases f with
    | next => exact h₃
    | cont => exact h₃
    | brk => exact then_next (done _ h₃)
    | ret v => exact then_ret h₃
theorem s_forJ {target iter : Expr} {body : List Stmt} {pos : Pos} (I : Value → Nat → Shared → Prop) (J : Shared → Prop)
    (h : wpAny (model prog w) A (eval iter env) (fun x s₁ => wpAny (model prog w) A (pyIter x) (fun it s₂ => (∃ n, I it n s₂) ∧ (∀ v, letOwnedTupleGo target it v = pure ())) E s₁) E s)
    (turn : ∀ it n s, I it n s → wpAny (model prog w) A (pyNext it) (fun r s₁ => match r with
      | none => J s₁
      | some v => wpAny (model prog w) A (assign target env v) (fun _ s₂ => wpAny (model prog w) A (execs body env) (Turn (I it) J Q n) (fun _ _ => False) s₂) (fun _ _ => False) s₁) (fun _ _ => False) s)
    (done : ∀ s, J s → wpAny (model prog w) A (execs rest env) Q E s)
    (hs : ∀ x, foldedSetIterable iter env x = pure x := by intro _; rfl) : wpAny (model prog w) A (execs (.For target iter body [] pos :: rest) env) Q E s := by
  refine s_for (wpAny_mono h (fun x s₁ h₁ => wpAny_mono h₁ (fun it s₂ h₂ => ?_) fun _ _ e => e) fun _ _ e => e) hs
  obtain ⟨⟨n, hI⟩, ht⟩ := h₂
  refine codeAny_forLoop (I it) (fun n s hI => ?_) n hI ht
  refine wpAny_mono (turn it n s hI) (fun r s₁ h₁ => ?_) fun _ _ x => x.elim
  cases r with
  | none => exact wpAny_execs_nil (then_next (done _ h₁))
  | some v =>
    refine wpAny_mono h₁ (fun _ s₂ h₂ => wpAny_mono h₂ (fun f s₃ h₃ => ?_) fun _ _ x => x.elim) fun _ _ x => x.elim
    cases f with
    | next => exact h₃
    | cont => exact h₃
    | brk => exact then_next (done _ h₃)
    | ret v => exact then_ret h₃
end

theorem ite_d {c : Prop} [Decidable c] {p q : Prop} (h1 : c → p) (h2 : ¬ c → q) : if decide c = true then p else q := by
  by_cases h : c
  · simpa [h] using h1 h
  · simpa [h] using h2 h
theorem ite_b {b : Bool} {p q : Prop} (h1 : b = true → p) (h2 : b = false → q) : if b = true then p else q := by
  cases b
  · simpa using h2 rfl
  · simpa using h1 rfl

/-! operators, the state written out -/
section
variable {prog : Program} {w : World} {A : Around} {E : Value → Shared → Prop} {h : Heap} {g : Array GenState} {d : Drawn} {tk : Nat} {os : OsState} {a b : Int} {t u : Tok} {Q : Value → Shared → Prop} {env : Env}
theorem e_int {i : Int} {k pos} (q : Q (.int i tk) ⟨h, g, d, tk + 1, os⟩) : wpAny (model prog w) A (eval (.Constant (.int i) k pos) env) Q E ⟨h, g, d, tk, os⟩ := fun _ _ _ => q
theorem e_str {x : Str} {k pos} (q : Q (.str x tk) ⟨h, g, d, tk + 1, os⟩) : wpAny (model prog w) A (eval (.Constant (.str x) k pos) env) Q E ⟨h, g, d, tk, os⟩ := fun _ _ _ => q
theorem o_add (q : Q (.int (a + b) tk) ⟨h, g, d, tk + 1, os⟩) : wpAny (model prog w) A (binaryOp .Add (.int a t) (.int b u)) Q E ⟨h, g, d, tk, os⟩ := add_int q
theorem o_sub (q : Q (.int (a - b) tk) ⟨h, g, d, tk + 1, os⟩) : wpAny (model prog w) A (binaryOp .Sub (.int a t) (.int b u)) Q E ⟨h, g, d, tk, os⟩ := sub_int q
theorem o_shr (hb : 0 ≤ b) (q : Q (.int (a.fdiv (2 ^ b.toNat)) tk) ⟨h, g, d, tk + 1, os⟩) : wpAny (model prog w) A (binaryOp .RShift (.int a t) (.int b u)) Q E ⟨h, g, d, tk, os⟩ := rshift_int hb q
theorem o_div (hb : b ≠ 0) (hp : Builtin.divisionGoesByPylong a b = false) (q : Q (.int (a.fdiv b) tk) ⟨h, g, d, tk + 1, os⟩) : wpAny (model prog w) A (binaryOp .FloorDiv (.int a t) (.int b u)) Q E ⟨h, g, d, tk, os⟩ := floordiv_int hb q (.inl hp)
theorem o_mod (hb : b ≠ 0) (q : Q (.int (a.fmod b) tk) ⟨h, g, d, tk + 1, os⟩) : wpAny (model prog w) A (binaryOp .Mod (.int a t) (.int b u)) Q E ⟨h, g, d, tk, os⟩ := mod_int hb q
theorem o_and (q : Q (.int (Builtin.bitAnd a b) tk) ⟨h, g, d, tk + 1, os⟩) : wpAny (model prog w) A (binaryOp .BitAnd (.int a t) (.int b u)) Q E ⟨h, g, d, tk, os⟩ := and_int q
theorem o_or (q : Q (.int (Builtin.bitOr a b) tk) ⟨h, g, d, tk + 1, os⟩) : wpAny (model prog w) A (binaryOp .BitOr (.int a t) (.int b u)) Q E ⟨h, g, d, tk, os⟩ := or_int q
theorem o_addE {c : Int} (e : a + b = c) (q : Q (.int c tk) ⟨h, g, d, tk + 1, os⟩) : wpAny (model prog w) A (binaryOp .Add (.int a t) (.int b u)) Q E ⟨h, g, d, tk, os⟩ := o_add (e ▸ q)
theorem o_subE {c : Int} (e : a - b = c) (q : Q (.int c tk) ⟨h, g, d, tk + 1, os⟩) : wpAny (model prog w) A (binaryOp .Sub (.int a t) (.int b u)) Q E ⟨h, g, d, tk, os⟩ := o_sub (e ▸ q)
theorem o_shrE {c : Int} (hb : 0 ≤ b) (e : a.fdiv (2 ^ b.toNat) = c) (q : Q (.int c tk) ⟨h, g, d, tk + 1, os⟩) : wpAny (model prog w) A (binaryOp .RShift (.int a t) (.int b u)) Q E ⟨h, g, d, tk, os⟩ := o_shr hb (e ▸ q)
theorem o_divE {c : Int} (hb : b ≠ 0) (hp : Builtin.divisionGoesByPylong a b = false) (e : a.fdiv b = c) (q : Q (.int c tk) ⟨h, g, d, tk + 1, os⟩) : wpAny (model prog w) A (binaryOp .FloorDiv (.int a t) (.int b u)) Q E ⟨h, g, d, tk, os⟩ := o_div hb hp (e ▸ q)
theorem o_modE {c : Int} (hb : b ≠ 0) (e : a.fmod b = c) (q : Q (.int c tk) ⟨h, g, d, tk + 1, os⟩) : wpAny (model prog w) A (binaryOp .Mod (.int a t) (.int b u)) Q E ⟨h, g, d, tk, os⟩ := o_mod hb (e ▸ q)
theorem o_andE {c : Int} (e : Builtin.bitAnd a b = c) (q : Q (.int c tk) ⟨h, g, d, tk + 1, os⟩) : wpAny (model prog w) A (binaryOp .BitAnd (.int a t) (.int b u)) Q E ⟨h, g, d, tk, os⟩ := o_and (e ▸ q)
theorem o_orE {c : Int} (e : Builtin.bitOr a b = c) (q : Q (.int c tk) ⟨h, g, d, tk + 1, os⟩) : wpAny (model prog w) A (binaryOp .BitOr (.int a t) (.int b u)) Q E ⟨h, g, d, tk, os⟩ := o_or (e ▸ q)
theorem o_mul (hm : IntMulOk a b) (q : Q (.int (a * b) tk) ⟨h, g, d, tk + 1, os⟩) : wpAny (model prog w) A (binaryOp .Mult (.int a t) (.int b u)) Q E ⟨h, g, d, tk, os⟩ := mul_int q hm
theorem o_mulE {c : Int} (hm : IntMulOk a b) (e : a * b = c) (q : Q (.int c tk) ⟨h, g, d, tk + 1, os⟩) : wpAny (model prog w) A (binaryOp .Mult (.int a t) (.int b u)) Q E ⟨h, g, d, tk, os⟩ := o_mul hm (e ▸ q)
end

end Mine
namespace Mine

structure Deed where
  hour : Int
  place : Int
  stage : Int
  name : Int
  kind : Int
  bits : Int
  span : Int
deriving DecidableEq, Inhabited
def Deed.toL (d : Deed) : List Int := [d.hour, d.place, d.stage, d.name, d.kind, d.bits, d.span]
def dlt (a b : Deed) : Bool := lexLt a.toL b.toL

def DeedAt (h : Heap) (a : Addr) (d : Deed) : Prop := ∃ vals, IsTup h a (List.toArray vals) ∧ IntsAre vals d.toL
theorem DeedAt.keeps {h h' : Heap} {a : Addr} {d : Deed} (x : DeedAt h a d) (k : Keep h h') : DeedAt h' a d := let ⟨v, t, i⟩ := x; ⟨v, t.keeps k, i⟩

abbrev AD := Addr × Deed
abbrev DeedsAt (h : Heap) (ps : List AD) : Prop := ∀ p ∈ ps, DeedAt h p.1 p.2
abbrev refs (ps : List AD) : List Value := ps.map fun p => Value.ref p.1
def alt (p q : AD) : Bool := dlt p.2 q.2

section
variable {prog : Program} {w : World} {A : Around} {E : Value → Shared → Prop} {h : Heap} {g : Array GenState} {d : Drawn} {t : Nat} {o : OsState}
  {h₀ : Heap} {L : Addr} {m : Str → Option Value} {news : List (Addr × Obj)}

theorem o_lt {a b : AD} {Q : Value → Shared → Prop} (F : Fr h₀ L h m) (ha : DeedAt h₀ a.1 a.2) (hb : DeedAt h₀ b.1 b.2) {n : Nat} (r : Room A n) (q : Q (.bool (alt a b)) ⟨h, g, d, t, o⟩) :
    wpAny (model prog w) A (compareOp .Lt (.ref a.1) (.ref b.1)) Q E ⟨h, g, d, t, o⟩ := by
  obtain ⟨va, ta, ia⟩ := ha
  obtain ⟨vb, tb, ib⟩ := hb
  exact lt_tup (s := ⟨h, g, d, t, o⟩) (ta.keeps F.keep) (tb.keeps F.keep) ia ib r.u q

/-- an item of a list of the ledger -/
theorem l_get {value slice : Expr} {l : Addr} {vs : List Value} {n : Nat} {k : Int} {u : Tok} {v : Value} {Q : Value → Shared → Prop}
    (hl : h.get? l = some (listOf vs.toArray n)) (h0 : 0 ≤ k) (hhi : k < 2 ^ 63) (hx : vs[k.toNat]? = some v) (q : Q v ⟨h, g, d, t, o⟩)
    (hs : subscripted slice false (.ref l) (.int k u) = operate [.ref l, .int k u] (getItem (.ref l) (.int k u)) := by with_unfolding_all rfl) :
    wpAny (model prog w) A (subscriptTail value slice (.ref l) (.int k u)) Q E ⟨h, g, d, t, o⟩ :=
  have hL : h.IsList l vs.toArray := ⟨_, hl, rfl, _, rfl⟩
  tail_any hL.typeIs slot_list_getitem.lookup (wpAny_getItem_list (s := ⟨h, g, d, t, o⟩) hL h0 hhi (by simpa using hx) q) hs
theorem l_set {l : Addr} {vs : List Value} {n : Nat} {k : Int} {u : Tok} {v : Value} {Q : Unit → Shared → Prop}
    (F : Fr h₀ L h m) (N : News h₀ L h ((l, listOf vs.toArray n) :: news)) (hr : ∀ p ∈ news, p.1 ≠ l) (h0 : 0 ≤ k) (hhi : k < 2 ^ 63) (hx : k < vs.length)
    (q : ∀ h', Fr h₀ L h' m → News h₀ L h' ((l, listOf (vs.set k.toNat v).toArray n) :: news) → Q () ⟨h', g, d, t, o⟩) :
    wpAny (model prog w) A (setItem (.ref l) (.int k u) v) Q E ⟨h, g, d, t, o⟩ := by
  have z := N (l, listOf vs.toArray n) (.head _)
  refine ki_setAt (s := ⟨h, g, d, t, o⟩) z.1 h0 hhi (by simpa using hx) (q _ (F.change (Heap.SameBut.update ..) z.2.1 z.2.2) (ki_turn (pre := []) _ N (fun _ h => nomatch h) hr ?_ ?_))
  · apply Array.toList_inj.mp; simp
  · simp
theorem l_getN {value slice : Expr} {l : Addr} {ps : List AD} {n i : Nat} {u : Tok} {p : AD} {Q : Value → Shared → Prop}
    (hl : h.get? l = some (listOf (refs ps).toArray n)) (hx : ps[i]? = some p) (hhi : ps.length ≤ 1000) (q : Q (.ref p.1) ⟨h, g, d, t, o⟩)
    (hs : subscripted slice false (.ref l) (.int i u) = operate [.ref l, .int i u] (getItem (.ref l) (.int i u)) := by with_unfolding_all rfl) :
    wpAny (model prog w) A (subscriptTail value slice (.ref l) (.int i u)) Q E ⟨h, g, d, t, o⟩ :=
  have hi : i < ps.length := (List.getElem?_eq_some_iff.mp hx).1
  l_get hl (by lia) (by lia) (by simp [hx]) q hs
theorem l_setN {l : Addr} {ps : List AD} {n i : Nat} {u : Tok} {p : AD} {Q : Unit → Shared → Prop}
    (F : Fr h₀ L h m) (N : News h₀ L h ((l, listOf (refs ps).toArray n) :: news)) (hr : ∀ p ∈ news, p.1 ≠ l) (hx : i < ps.length) (hhi : ps.length ≤ 1000)
    (q : ∀ h', Fr h₀ L h' m → News h₀ L h' ((l, listOf (refs (ps.set i p)).toArray n) :: news) → Q () ⟨h', g, d, t, o⟩) :
    wpAny (model prog w) A (setItem (.ref l) (.int i u) (.ref p.1)) Q E ⟨h, g, d, t, o⟩ := by
  refine l_set F N hr (by lia) (by lia) (by simpa using hx) fun h' F' N' => q h' F' ?_
  have e : refs (ps.set i p) = (refs ps).set (i : Int).toNat (Value.ref p.1) := by simp [refs, List.map_set]
  rw [e]; exact N'
end

def siftdown {α : Type} (lt : α → α → Bool) (x : α) (start pos : Nat) (xs : List α) : List α :=
  if start < pos then
    match xs[(pos - 1) / 2]? with
    | some p => if lt x p then siftdown lt x start ((pos - 1) / 2) (xs.set pos p) else xs.set pos x
    | none => xs.set pos x
  else xs.set pos x
termination_by pos
decreasing_by lia

theorem siftdown_step {α : Type} {lt : α → α → Bool} {x p : α} {start pos : Nat} {xs : List α} (h : start < pos) (hp : xs[(pos - 1) / 2]? = some p) (hl : lt x p = true) :
    siftdown lt x start pos xs = siftdown lt x start ((pos - 1) / 2) (xs.set pos p) := by
  rw [siftdown]; simp [h, hp, hl]
theorem siftdown_stop {α : Type} {lt : α → α → Bool} {x p : α} {start pos : Nat} {xs : List α} (hp : xs[(pos - 1) / 2]? = some p) (hl : lt x p = false) :
    siftdown lt x start pos xs = xs.set pos x := by
  rw [siftdown]; simp [hp, hl]
theorem siftdown_end {α : Type} {lt : α → α → Bool} {x : α} {start pos : Nat} {xs : List α} (h : ¬ start < pos) :
    siftdown lt x start pos xs = xs.set pos x := by
  rw [siftdown]; simp [h]

theorem wpAny_in {M : Model} {A : Around} {α : Type} {t : Sem α} {Q : α → Shared → Prop} {E : Value → Shared → Prop} {s : Shared} (h : wpAny M A t Q E ⟨s.heap, s.gens, s.drawn, s.toks, s.os⟩) : wpAny M A t Q E s := h

theorem look_siftdown (P : Params) : ∃ o, (hd.heap_39 P).lookup 56 = some o := ⟨_, rfl⟩

local macro_rules | `(tactic| walk_at "lk") => `(tactic| first | with_reducible exact upd_eq | (refine upd_ne (by rfl) ?_; walk_at "lk") | with_reducible assumption | rfl)
local macro_rules | `(tactic| walk_at "nm") => `(tactic| refine nmL (by with_reducible assumption) (by walk_at "lk") ?_)
local macro_rules | `(tactic| walk_at "st") => `(tactic| (refine sto (by with_reducible assumption) (by with_reducible assumption) ?_; intro _ F N))

section
variable {prog : Program} {w : World} {A : Around} {E : Value → Shared → Prop} {h : Heap} {gs : Array GenState} {dr : Drawn} {t : Nat} {os : OsState} {g : Heap}

inductive B4_I1 (gs : Array GenState) (dr : Drawn) (os : OsState) (g : Heap) (L : Addr) (l : Addr) (n : Nat) (x : AD) (start : Nat) (ps : List AD) (pos : Nat) (nn : Nat) (s' : Shared) : Prop
  | mk (h : Heap) (m : Str → Option Value) (pos' : Nat) (ps' : List AD) (tk : Nat) (tp : Tok) (ts : Tok) : (s' = ⟨h, gs, dr, tk, os⟩) → (Fr g L h m) → (News g L h [(l, listOf (refs ps').toArray n)]) → (m (Str.ofString "heap") = some (.ref l)) → (m (Str.ofString "newitem") = some (.ref x.1)) → (m (Str.ofString "startpos") = some (.int start ts)) → (m (Str.ofString "pos") = some (.int (pos' : Nat) tp)) → (pos' < ps'.length) → (ps'.length = ps.length) → (DeedsAt g ps') → (siftdown alt x start pos' ps' = siftdown alt x start pos ps) → (nn = pos') → B4_I1 gs dr os g L l n x start ps pos nn s'
inductive B4_I2 (gs : Array GenState) (dr : Drawn) (os : OsState) (g : Heap) (L : Addr) (l : Addr) (n : Nat) (x : AD) (ps : List AD) (start : Nat) (pos : Nat) (s' : Shared) : Prop
  | mk (h : Heap) (m : Str → Option Value) (pos' : Nat) (ps' : List AD) (tk : Nat) (tp : Tok) : (s' = ⟨h, gs, dr, tk, os⟩) → (Fr g L h m) → (News g L h [(l, listOf (refs ps').toArray n)]) → (m (Str.ofString "heap") = some (.ref l)) → (m (Str.ofString "newitem") = some (.ref x.1)) → (m (Str.ofString "pos") = some (.int (pos' : Nat) tp)) → (pos' < ps'.length) → (ps'.length = ps.length) → (ps'.set pos' x = siftdown alt x start pos ps) → B4_I2 gs dr os g L l n x ps start pos s'
theorem siftdown_call {l : Addr} {n : Nat} {ps : List AD} {x : AD} {start pos : Nat} {t1 t2 : Tok} {Q : Value → Shared → Prop} {k : Nat}
    (G : Gd w g) (hk : Keep g h) (hsz : g.objs.size ≤ h.objs.size) (hlg : g.get? l = none) (hl : h.get? l = some (listOf (refs ps).toArray n))
    (hD : DeedsAt g ps) (hx : ps[pos]? = some x) (r : Room A (k + 1)) (hlen : ps.length ≤ 1000)
    (hQ : ∀ h' tk, Keep g h' → h.objs.size ≤ h'.objs.size → h'.get? l = some (listOf (refs (siftdown alt x start pos ps)).toArray n) → Q .none ⟨h', gs, dr, tk, os⟩) :
    wpAny (model prog w) A (call (.ref 56) [.ref l, .int start t1, .int pos t2]) Q E ⟨h, gs, dr, t, os⟩ := by
  refine callw G hk hsz r (f := 56) (binds := [(Str.ofString "heap", .ref l), (Str.ofString "startpos", .int start t1), (Str.ofString "pos", .int pos t2)]) rfl rfl rfl (locs rfl) fun L h₁ A' E' tk hL R F hk₁ => ?_
  have N : News g L h₁ [(l, listOf (refs ps).toArray n)] := newsAt hk₁ hL (by simp [hl, hlg])
  have hpos : pos < ps.length := (List.getElem?_eq_some_iff.mp hx).1
  refine s_asg ?_
  refine Subscript_ ?_
  walk_at "nm"
  walk_at "nm"
  refine l_getN (N _ (.head _)).1 hx hlen ?_
  refine sto F N fun h₂ F N => ?_
  refine s_whileJ (B4_I1 gs dr os g L l n x start ps pos)
    (B4_I2 gs dr os g L l n x ps start pos)
    pos ⟨_, _, pos, ps, _, _, _, rfl, F, N, by walk_at "lk", by walk_at "lk", by walk_at "lk", by walk_at "lk", hpos, rfl, hD, rfl, rfl⟩ ?turn ?done
  case turn =>
    rintro nn s' ⟨h, m, pos', ps', tk, tp, ts, rfl, F, N, m1, m2, m3, m4, hp', hlen', hD', hsd, rfl⟩
    refine wpAny_isTrue_Compare1 ?_
    walk_at "nm"
    walk_at "nm"
    refine gt_int (wpAny_truthy_bool (ite_d (fun hc => ?_) fun hc => ?_))
    · have hc' : start < nn := by lia
      have hpp : (nn - 1) / 2 < ps'.length := by lia
      refine s_asg (wpAny_BinOp (wpAny_BinOp ?_))
      walk_at "nm"
      refine e_int (o_sub (e_int (o_shr (by decide) ?_)))
      refine sto F N fun h₃ F N => ?_
      have epp : Int.fdiv ((nn : Int) - 1) (2 ^ (1 : Int).toNat) = ((nn - 1) / 2 : Nat) := by
        rw [Int.fdiv_eq_ediv_of_nonneg _ (by decide)]
        show ((nn : Int) - 1) / 2 = _
        lia
      rw [epp] at F
      refine s_asg (Subscript_ ?_)
      walk_at "nm"
      walk_at "nm"
      obtain ⟨p, hp⟩ : ∃ p, ps'[(nn - 1) / 2]? = some p := ⟨_, List.getElem?_eq_getElem hpp⟩
      refine l_getN (N _ (.head _)).1 hp (by lia) ?_
      refine sto F N fun h₄ F N => ?_
      refine s_if (wpAny_isTrue_Compare1 ?_)
      walk_at "nm"
      walk_at "nm"
      refine o_lt F (hD x (List.mem_of_getElem? hx)) (hD' p (List.mem_of_getElem? hp)) R (wpAny_truthy_bool (ite_b (fun hb => ?_) fun hb => ?_))
      · refine s_sub ?_
        walk_at "nm"
        walk_at "nm"
        walk_at "nm"
        refine l_setN F N (by simp) hp' (by lia) fun h₅ F N => ?_
        refine s_asg ?_
        walk_at "nm"
        refine sto F N fun h₆ F N => ?_
        refine s_cont (then_cont ?_)
        refine ⟨(nn - 1) / 2, by lia, h₆, _, (nn - 1) / 2, ps'.set nn p, _, _, _, rfl, F, N, by walk_at "lk", by walk_at "lk", by walk_at "lk", by walk_at "lk", by simpa using hpp, by simpa using hlen', ?_, ?_, rfl⟩
        · intro q hq
          rcases List.mem_or_eq_of_mem_set hq with hq | rfl
          · exact hD' q hq
          · exact hD' _ (List.mem_of_getElem? hp)
        · rw [← hsd, siftdown_step hc' hp hb]
      · refine s_nil (then_next (s_brk ?_))
        refine ⟨_, _, nn, ps', _, _, rfl, F, N, by walk_at "lk", by walk_at "lk", by walk_at "lk", hp', hlen', ?_⟩
        rw [← hsd, siftdown_stop hp hb]
    · refine ⟨_, _, nn, ps', _, _, rfl, F, N, m1, m2, m4, hp', hlen', ?_⟩
      rw [← hsd, siftdown_end (by lia)]
  case done =>
    rintro s' ⟨h, m, pos', ps', tk, tp, rfl, F, N, m1, m2, m4, hp', hlen', hsd⟩
    refine s_sub ?_
    walk_at "nm"
    walk_at "nm"
    walk_at "nm"
    refine l_setN F N (by simp) hp' (by lia) fun h₅ F N => ?_
    refine s_nil (hQ _ _ F.keep (frame_size F hL) ?_)
    rw [← hsd]; exact (N _ (.head _)).1
end

end Mine
namespace Mine
local macro_rules | `(tactic| walk_at "lk") => `(tactic| first | with_reducible exact upd_eq | (refine upd_ne (by rfl) ?_; walk_at "lk") | with_reducible assumption | rfl)
local macro_rules | `(tactic| walk_at "nm") => `(tactic| refine nmL (by with_reducible assumption) (by walk_at "lk") ?_)

section
variable {prog : Program} {w : World} {A : Around} {E : Value → Shared → Prop} {h : Heap} {g : Array GenState} {d : Drawn} {t : Nat} {o : OsState}
  {h₀ : Heap} {L : Addr} {m : Str → Option Value} {news : List (Addr × Obj)}
theorem l_len {l : Addr} {vs : List Value} {n : Nat} {Q : Value → Shared → Prop} (hl : h.get? l = some (listOf vs.toArray n)) (hhi : vs.length ≤ 1000)
    (q : ∀ t', Q (.int (vs.length : Nat) t') ⟨h, g, d, t + 1 + 1, o⟩) : wpAny (model prog w) A (call (.builtin "len") [.ref l]) Q E ⟨h, g, d, t, o⟩ := by
  have hL : h.IsList l vs.toArray := ⟨_, hl, rfl, _, rfl⟩
  refine len_list (s := ⟨h, g, d, t, o⟩) hL ?_ ?_
  · simp only [List.size_toArray]; lia
  · simp only [List.size_toArray]; exact q _
theorem l_true {l : Addr} {vs : List Value} {n : Nat} {Q : Bool → Shared → Prop} (hl : h.get? l = some (listOf vs.toArray n)) (hhi : vs.length ≤ 1000)
    (q : Q (!vs.isEmpty) ⟨h, g, d, t + 1 + 1, o⟩) : wpAny (model prog w) A (truthy (.ref l)) Q E ⟨h, g, d, t, o⟩ := by
  have hL : h.IsList l vs.toArray := ⟨_, hl, rfl, _, rfl⟩
  refine wpAny_truthy_list (s := ⟨h, g, d, t, o⟩) hL ?_ ?_
  · simp only [List.size_toArray]; lia
  · simpa using q
theorem l_app {l : Addr} {vs : List Value} {n : Nat} {v : Value} {Q : Value → Shared → Prop} (F : Fr h₀ L h m) (N : News h₀ L h ((l, listOf vs.toArray n) :: news)) (hr : ∀ p ∈ news, p.1 ≠ l) (hhi : vs.length ≤ 1000)
    (q : ∀ h', Fr h₀ L h' m → News h₀ L h' ((l, listOf (vs ++ [v]).toArray (n + 1)) :: news) → Q .none ⟨h', g, d, t, o⟩) : wpAny (model prog w) A (call (.builtin "list.append") [.ref l, v]) Q E ⟨h, g, d, t, o⟩ := by
  refine append_K (s := ⟨h, g, d, t, o⟩) F N (Upd.head hr) (fun h' F' N' => q h' F' ?_) (by rw [List.size_toArray, sizeLine_eq]; lia)
  simpa using N'
theorem l_pop {l : Addr} {vs : List Value} {n : Nat} {v : Value} {Q : Value → Shared → Prop} (F : Fr h₀ L h m) (N : News h₀ L h ((l, listOf (vs ++ [v]).toArray n) :: news)) (hr : ∀ p ∈ news, p.1 ≠ l) (hhi : vs.length ≤ 1000)
    (q : ∀ h', Fr h₀ L h' m → News h₀ L h' ((l, listOf vs.toArray (n + 1)) :: news) → Q v ⟨h', g, d, t, o⟩) : wpAny (model prog w) A (call (.builtin "list.pop") [.ref l]) Q E ⟨h, g, d, t, o⟩ :=
  kl_pop (s := ⟨h, g, d, t, o⟩) F N (kpa_last v vs) (Upd.head hr) (by rw [sizeLine_eq]; simp; lia) q
theorem l_meth {l : Addr} {vs : List Value} {n : Nat} {name : Str} {id : String} {pl : Sem Bool} {Q : Value × List Value → Shared → Prop} (hl : h.get? l = some (listOf vs.toArray n)) (slot : Slot "list" name id)
    (hty : typeOf (.builtin id) = pure (.type "method_descriptor")) (q : Q (.builtin id, [.ref l]) ⟨h, g, d, t, o⟩) : wpAny (model prog w) A (getMethod (.ref l) name pl) Q E ⟨h, g, d, t, o⟩ :=
  getMethod_builtin (s := ⟨h, g, d, t, o⟩) ⟨_, hl, rfl⟩ PySem.F.plainAttrs_list slot hty (fun a e => by cases e; exact ⟨_, hl, rfl⟩) q
end

abbrev tupOf (vs : List Value) : Obj := { cls := .type "tuple", data := .seq vs.toArray }
section
variable {prog : Program} {w : World} {A : Around} {E : Value → Shared → Prop} {h : Heap} {g : Array GenState} {d : Drawn} {t : Nat} {o : OsState}
  {h₀ : Heap} {L : Addr} {m : Str → Option Value} {news : List (Addr × Obj)} {env : Env}
theorem n_tup {vs : List Value} {Q : Value → Shared → Prop} (F : Fr h₀ L h m) (N : News h₀ L h news) (hsz : vs.length ≤ 1000)
    (q : ∀ a h', Fr h₀ L h' m → News h₀ L h' ((a, tupOf vs) :: news) → (∀ p ∈ news, p.1 ≠ a) → Keep h h' → h.get? a = none → Q (.ref a) ⟨h', g, d, t, o⟩) : wpAny (model prog w) A (newTuple vs) Q E ⟨h, g, d, t, o⟩ :=
  wpAny_newObj_type (s := ⟨h, g, d, t, o⟩) (q _ _ (F.push _) (N.push F _) (fun p hp => Nat.ne_of_lt (Heap.lt_size (N p hp).1)) (fun _ _ e => Heap.get?_push_of_some _ e) (Heap.get?_none_of_le (Nat.le_refl _)))
    (by show vs.toArray.size ≤ sizeLine; rw [List.size_toArray, sizeLine_eq]; lia)
theorem n_list {vs : List Value} {Q : Value → Shared → Prop} (F : Fr h₀ L h m) (N : News h₀ L h news) (hsz : vs.length ≤ 1000)
    (q : ∀ a h', Fr h₀ L h' m → News h₀ L h' ((a, listOf vs.toArray 0) :: news) → (∀ p ∈ news, p.1 ≠ a) → Keep h h' → h.get? a = none → Q (.ref a) ⟨h', g, d, t, o⟩) : wpAny (model prog w) A (newList vs) Q E ⟨h, g, d, t, o⟩ :=
  wpAny_newObj_type (s := ⟨h, g, d, t, o⟩) (q _ _ (F.push _) (N.push F _) (fun p hp => Nat.ne_of_lt (Heap.lt_size (N p hp).1)) (fun _ _ e => Heap.get?_push_of_some _ e) (Heap.get?_none_of_le (Nat.le_refl _)))
    (by show vs.toArray.size ≤ sizeLine; rw [List.size_toArray, sizeLine_eq]; lia)
theorem a_tup {elts : List Expr} {k : Nat} {pos : Pos} {a : Addr} {vs : List Value} {Q : Unit → Shared → Prop} {j : Nat} (F : Fr h₀ L h m) (N : News h₀ L h news) (ht : IsTup h a vs.toArray) (r : Room A j)
    (hn : (assignEach elts env).length = vs.length) (hstar : (assignEach elts env).findIdx? (·.1) = none)
    (q : ∀ h', Fr h₀ L h' m → News h₀ L h' news → wpAny (model prog w) A (assignInOrder ((assignEach elts env).map (·.2)) vs) Q E ⟨h', g, d, t, o⟩) :
    wpAny (model prog w) A (assign (.Tuple elts k pos) env (.ref a)) Q E ⟨h, g, d, t, o⟩ :=
  unpackN_ (s := ⟨h, g, d, t, o⟩) F N ht r.handled (by simpa using hn) hstar (by simpa using q)
theorem a_sub {M : Model} {s : Shared} {ob i : Expr} {pos : Pos} {v : Value} {Q : Unit → Shared → Prop} (h : wpAny M A (eval ob env) (fun ov s₁ => wpAny M A (eval i env) (fun iv s₂ => wpAny M A (setItem ov iv v) Q E s₂) E s₁) E s) :
    wpAny M A (assign (.Subscript ob i pos) env v) Q E s := fun Γ p hΓ => by
  simp only [assign_Subscript, Sem.wp_bind', Sem.wp_holding, Sem.wp_cmd_standAt, Sem.wp_release]
  exact Sem.wp_mono M Γ _ (fun ov p₁ s₁ h₁ => Sem.wp_mono M Γ _ (fun iv _ s₂ h₂ => h₂ Γ _ hΓ) (fun _ _ _ h' => h') _ _ (h₁ Γ p₁ hΓ)) (fun _ _ _ h' => h') _ _ (h Γ p hΓ)
end
theorem s_tup {M : Model} {A : Around} {E : Value → Shared → Prop} {s : Shared} {env : Env} {rest : List Stmt} {Q : Flow → Shared → Prop} {elts : List Expr} {k : Nat} {tpos pos : Pos} {value : Expr}
    (h : wpAny M A (eval value env) (fun v s₁ => wpAny M A (assign (.Tuple elts k tpos) env v) (fun _ s₂ => wpAny M A (execs rest env) Q E s₂) E s₁) E s)
    (hs : swapsWithSole [.Tuple elts k tpos] value pos.line env = pure false := by rfl)
    (hw : swappedStores [.Tuple elts k tpos] value env = pure none := by rfl) :
    wpAny M A (execs (.Assign [.Tuple elts k tpos] value pos :: rest) env) Q E s := s_seq (Assign_Tuple h hs hw)

theorem deeds_set {g : Heap} {ps : List AD} {i : Nat} {p : AD} (h : DeedsAt g ps) (hp : DeedAt g p.1 p.2) : DeedsAt g (ps.set i p) := by
  intro q hq
  rcases List.mem_or_eq_of_mem_set hq with hq | rfl
  · exact h q hq
  · exact hp
theorem deeds_at {g : Heap} {ps : List AD} {i : Nat} {p : AD} (h : DeedsAt g ps) (hp : ps[i]? = some p) : DeedAt g p.1 p.2 := h _ (List.mem_of_getElem? hp)

/-! sifting up: the smaller child goes up till a leaf -/
def child {α : Type} (lt : α → α → Bool) (xs : List α) (pos : Nat) : Nat :=
  match xs[2 * pos + 1]?, xs[2 * pos + 2]? with
  | some a, some b => if lt a b then 2 * pos + 1 else 2 * pos + 2
  | _, _ => 2 * pos + 1
theorem child_bounds {α : Type} {lt : α → α → Bool} {xs : List α} {pos : Nat} (h : 2 * pos + 1 < xs.length) : 2 * pos + 1 ≤ child lt xs pos ∧ child lt xs pos ≤ 2 * pos + 2 ∧ child lt xs pos < xs.length := by
  unfold child
  split
  · rename_i a b ha hb
    have := (List.getElem?_eq_some_iff.mp hb).1
    split <;> lia
  · lia
def siftGo {α : Type} (lt : α → α → Bool) (xs : List α) (pos : Nat) : List α × Nat :=
  if h : 2 * pos + 1 < xs.length then siftGo lt (xs.set pos (xs[child lt xs pos]'(child_bounds h).2.2)) (child lt xs pos) else (xs, pos)
termination_by xs.length - pos
decreasing_by
  have := child_bounds (lt := lt) h
  simp only [List.length_set]; lia
theorem siftGo_step {α : Type} {lt : α → α → Bool} {xs : List α} {pos : Nat} {c : α} (h : 2 * pos + 1 < xs.length) (hc : xs[child lt xs pos]? = some c) :
    siftGo lt xs pos = siftGo lt (xs.set pos c) (child lt xs pos) := by
  rw [siftGo, dif_pos h]
  have : xs[child lt xs pos]'(child_bounds h).2.2 = c := by
    rw [List.getElem?_eq_getElem (child_bounds h).2.2] at hc; exact Option.some.inj hc
  rw [this]
theorem siftGo_end {α : Type} {lt : α → α → Bool} {xs : List α} {pos : Nat} (h : ¬ 2 * pos + 1 < xs.length) : siftGo lt xs pos = (xs, pos) := by
  rw [siftGo, dif_neg h]
def siftup {α : Type} (lt : α → α → Bool) (x : α) (pos : Nat) (xs : List α) : List α :=
  siftdown lt x pos (siftGo lt xs pos).2 ((siftGo lt xs pos).1.set (siftGo lt xs pos).2 x)

section
variable {prog : Program} {w : World} {A : Around} {E : Value → Shared → Prop} {h : Heap} {gs : Array GenState} {dr : Drawn} {t : Nat} {os : OsState} {g : Heap}

inductive B5_I1 (gs : Array GenState) (dr : Drawn) (os : OsState) (g : Heap) (L : Addr) (l : Addr) (n : Nat) (x : AD) (pos : Nat) (ps : List AD) (nn : Nat) (s' : Shared) : Prop
  | mk (h : Heap) (m : Str → Option Value) (pos' : Nat) (ps' : List AD) (tk : Nat) (tp : Tok) (ts : Tok) (te : Tok) (tc : Tok) : (s' = ⟨h, gs, dr, tk, os⟩) → (Fr g L h m) → (News g L h [(l, listOf (refs ps').toArray n)]) → (m (Str.ofString "heap") = some (.ref l)) → (m (Str.ofString "newitem") = some (.ref x.1)) → (m (Str.ofString "startpos") = some (.int pos ts)) → (m (Str.ofString "pos") = some (.int (pos' : Nat) tp)) → (m (Str.ofString "endpos") = some (.int ((refs ps).length : Nat) te)) → (m (Str.ofString "childpos") = some (.int (2 * pos' + 1 : Nat) tc)) → (pos' < ps'.length) → (ps'.length = ps.length) → (DeedsAt g ps') → (siftGo alt ps' pos' = siftGo alt ps pos) → (nn = ps'.length - pos') → B5_I1 gs dr os g L l n x pos ps nn s'
inductive B5_I2 (gs : Array GenState) (dr : Drawn) (os : OsState) (g : Heap) (L : Addr) (l : Addr) (ps : List AD) (pos : Nat) (n : Nat) (x : AD) (s' : Shared) : Prop
  | mk (h : Heap) (m : Str → Option Value) (tk : Nat) (tp : Tok) (ts : Tok) : (s' = ⟨h, gs, dr, tk, os⟩) → (Fr g L h m) → (News g L h [(l, listOf (refs (siftGo alt ps pos).1).toArray n)]) → (m (Str.ofString "heap") = some (.ref l)) → (m (Str.ofString "newitem") = some (.ref x.1)) → (m (Str.ofString "startpos") = some (.int pos ts)) → (m (Str.ofString "pos") = some (.int ((siftGo alt ps pos).2 : Nat) tp)) → ((siftGo alt ps pos).2 < (siftGo alt ps pos).1.length) → ((siftGo alt ps pos).1.length = ps.length) → (DeedsAt g (siftGo alt ps pos).1) → B5_I2 gs dr os g L l ps pos n x s'
inductive B5_I3 (gs : Array GenState) (dr : Drawn) (os : OsState) (g : Heap) (L : Addr) (l : Addr) (ps' : List AD) (n : Nat) (x : AD) (pos : Nat) (ts : Tok) (pos' : Nat) (tp : Tok) (ps : List AD) (te : Tok) (s' : Shared) : Prop
  | mk (h : Heap) (m : Str → Option Value) (tk : Nat) (tc : Tok) : (s' = ⟨h, gs, dr, tk, os⟩) → (Fr g L h m) → (News g L h [(l, listOf (refs ps').toArray n)]) → (m (Str.ofString "heap") = some (.ref l)) → (m (Str.ofString "newitem") = some (.ref x.1)) → (m (Str.ofString "startpos") = some (.int pos ts)) → (m (Str.ofString "pos") = some (.int (pos' : Nat) tp)) → (m (Str.ofString "endpos") = some (.int ((refs ps).length : Nat) te)) → (m (Str.ofString "childpos") = some (.int (child alt ps' pos' : Nat) tc)) → B5_I3 gs dr os g L l ps' n x pos ts pos' tp ps te s'
theorem siftup_call {l : Addr} {n : Nat} {ps : List AD} {x : AD} {pos : Nat} {t1 : Tok} {Q : Value → Shared → Prop} {k : Nat}
    (G : Gd w g) (hk : Keep g h) (hsz : g.objs.size ≤ h.objs.size) (hlg : g.get? l = none) (hl : h.get? l = some (listOf (refs ps).toArray n))
    (hD : DeedsAt g ps) (hx : ps[pos]? = some x) (r : Room A (k + 2)) (hlen : ps.length ≤ 1000)
    (hQ : ∀ h' tk, Keep g h' → h.objs.size ≤ h'.objs.size → h'.get? l = some (listOf (refs (siftup alt x pos ps)).toArray n) → Q .none ⟨h', gs, dr, tk, os⟩) :
    wpAny (model prog w) A (call (.ref 63) [.ref l, .int pos t1]) Q E ⟨h, gs, dr, t, os⟩ := by
  refine callw G hk hsz r (f := 63) (binds := [(Str.ofString "heap", .ref l), (Str.ofString "pos", .int pos t1)]) rfl rfl rfl (locs rfl) fun L h₁ A' E' tk hL R F hk₁ => ?_
  have N : News g L h₁ [(l, listOf (refs ps).toArray n)] := newsAt hk₁ hL (by simp [hl, hlg])
  have hpos : pos < ps.length := (List.getElem?_eq_some_iff.mp hx).1
  refine s_asg (Call_ ?_)
  refine nmB F G rfl boot_len (by decide) (c_blt (wpAny_items_cons ?_))
  walk_at "nm"
  refine wpAny_items_nil (l_len (N _ (.head _)).1 (by simpa using hlen) fun te => ?_)
  refine sto F N fun h₂ F N => ?_
  refine s_asg ?_
  walk_at "nm"
  refine sto F N fun h₃ F N => ?_
  refine s_asg (Subscript_ ?_)
  walk_at "nm"
  walk_at "nm"
  refine l_getN (N _ (.head _)).1 hx hlen ?_
  refine sto F N fun h₄ F N => ?_
  refine s_asg (wpAny_BinOp (wpAny_BinOp (e_int ?_)))
  walk_at "nm"
  refine o_mul (.of_left (by decide +kernel)) (e_int (o_addE (c := (2 * pos + 1 : Nat)) (by lia) ?_))
  refine sto F N fun h₅ F N => ?_
  refine s_whileJ (B5_I1 gs dr os g L l n x pos ps)
    (B5_I2 gs dr os g L l ps pos n x)
    (ps.length - pos) ⟨_, _, pos, ps, _, _, _, _, _, rfl, F, N, by walk_at "lk", by walk_at "lk", by walk_at "lk", by walk_at "lk", by walk_at "lk", by walk_at "lk", hpos, rfl, hD, rfl, rfl⟩ ?turn ?done
  case turn =>
    rintro nn s' ⟨h, m, pos', ps', tk, tp, ts, te, tc, rfl, F, N, m1, m2, m3, m4, m5, m6, hp', hlen', hD', hsd, rfl⟩
    refine wpAny_isTrue_Compare1 ?_
    walk_at "nm"
    walk_at "nm"
    have hel : (refs ps).length = ps'.length := by simp [hlen']
    refine lt_int (wpAny_truthy_bool (ite_d (fun hc => ?_) fun hc => ?_))
    · have hc' : 2 * pos' + 1 < ps'.length := by lia
      obtain ⟨a, ha⟩ : ∃ a, ps'[2 * pos' + 1]? = some a := ⟨_, List.getElem?_eq_getElem hc'⟩
      have hcb := child_bounds (lt := alt) hc'
      refine s_asg (wpAny_BinOp ?_)
      walk_at "nm"
      refine e_int (o_addE (c := (2 * pos' + 2 : Nat)) (by lia) ?_)
      refine sto F N fun h₆ F N => ?_
      refine s_ifJ (B5_I3 gs dr os g L l ps' n x pos ts pos' tp ps te) ?_ ?_
      · refine wpAny_isTrue_BoolOp (wpAny_allTrue_And_cons (wpAny_isTrue_Compare1 ?_))
        walk_at "nm"
        walk_at "nm"
        refine lt_int (wpAny_truthy_bool (ite_d (fun hr => ?_) fun hr => ?_))
        · have hr' : 2 * pos' + 2 < ps'.length := by lia
          obtain ⟨b, hb⟩ : ∃ b, ps'[2 * pos' + 2]? = some b := ⟨_, List.getElem?_eq_getElem hr'⟩
          have ech : child alt ps' pos' = if alt a b then 2 * pos' + 1 else 2 * pos' + 2 := by simp [child, ha, hb]
          refine wpAny_allTrue_And_cons (wpAny_isTrue_Not (wpAny_isTrue_Compare1 (Subscript_ ?_)))
          walk_at "nm"
          walk_at "nm"
          refine l_getN (N _ (.head _)).1 ha (by lia) (Subscript_ ?_)
          walk_at "nm"
          walk_at "nm"
          refine l_getN (N _ (.head _)).1 hb (by lia) ?_
          refine o_lt F (deeds_at hD' ha) (deeds_at hD' hb) R (wpAny_truthy_bool (ite_b (fun hq => ?_) fun hq => ?_))
          · have hq' : alt a b = false := by simpa using hq
            refine wpAny_allTrue_And_nil ?_
            simp only [if_true]
            refine s_asg ?_
            walk_at "nm"
            refine sto F N fun h₇ F N => s_nil ⟨rfl, _, _, _, _, rfl, F, N, by walk_at "lk", by walk_at "lk", by walk_at "lk", by walk_at "lk", by walk_at "lk", by rw [ech, hq']; exact upd_eq⟩
          · have hq' : alt a b = true := by simpa using hq
            simp only [Bool.false_eq_true, if_false]
            refine s_nil ⟨rfl, _, _, _, _, rfl, F, N, by walk_at "lk", by walk_at "lk", by walk_at "lk", by walk_at "lk", by walk_at "lk", by rw [ech, hq']; exact upd_ne rfl m6⟩
        · simp only [Bool.false_eq_true, if_false]
          have ech : child alt ps' pos' = 2 * pos' + 1 := by
            have : ps'[2 * pos' + 2]? = none := List.getElem?_eq_none (by lia)
            simp [child, this]
          refine s_nil ⟨rfl, _, _, _, _, rfl, F, N, by walk_at "lk", by walk_at "lk", by walk_at "lk", by walk_at "lk", by walk_at "lk", by rw [ech]; exact upd_ne rfl m6⟩
      · rintro s' ⟨h, m, tk, tc, rfl, F, N, m1, m2, m3, m4, m5, m6⟩
        obtain ⟨c, hcc⟩ : ∃ c, ps'[child alt ps' pos']? = some c := ⟨_, List.getElem?_eq_getElem hcb.2.2⟩
        refine s_sub (Subscript_ ?_)
        walk_at "nm"
        walk_at "nm"
        refine l_getN (N _ (.head _)).1 hcc (by lia) ?_
        walk_at "nm"
        walk_at "nm"
        refine l_setN F N (by simp) hp' (by lia) fun h₈ F N => ?_
        refine s_asg ?_
        walk_at "nm"
        refine sto F N fun h₉ F N => ?_
        refine s_asg (wpAny_BinOp (wpAny_BinOp (e_int ?_)))
        walk_at "nm"
        refine o_mul (.of_left (by decide +kernel)) (e_int (o_addE (c := (2 * child alt ps' pos' + 1 : Nat)) (by lia) ?_))
        refine sto F N fun h₁₀ F N => s_nil ?_
        refine ⟨(ps'.set pos' c).length - child alt ps' pos', by simp only [List.length_set]; lia, _, _, child alt ps' pos', ps'.set pos' c, _, _, _, _, _, rfl, F, N, by walk_at "lk", by walk_at "lk", by walk_at "lk", by walk_at "lk", by walk_at "lk", by walk_at "lk",
          by simp only [List.length_set]; lia, by simp only [List.length_set]; lia, deeds_set hD' (deeds_at hD' hcc), ?_, rfl⟩
        rw [← hsd, siftGo_step hc' hcc]
    · have e := siftGo_end (lt := alt) (xs := ps') (pos := pos') (by lia)
      have e' : siftGo alt ps pos = (ps', pos') := by rw [← hsd, e]
      exact ⟨_, _, _, tp, ts, rfl, F, by rw [e']; exact N, m1, m2, m3, by rw [e']; exact m4, by rw [e']; exact hp', by rw [e']; exact hlen', by rw [e']; exact hD'⟩
  case done =>
    rintro s' ⟨h, m, tk, tp, ts, rfl, F, N, m1, m2, m3, m4, hp', hlen', hD'⟩
    refine s_sub ?_
    walk_at "nm"
    walk_at "nm"
    walk_at "nm"
    refine l_setN F N (by simp) hp' (by lia) fun h₁₁ F N => ?_
    refine s_expr (Call_ ?_)
    refine nmG F G (v := .ref 56) rfl (c_def rfl (wpAny_items_cons ?_))
    walk_at "nm"
    refine wpAny_items_cons ?_
    walk_at "nm"
    refine wpAny_items_cons ?_
    walk_at "nm"
    refine wpAny_items_nil ⟨G.K.keeps F.keep, ?_⟩
    refine siftdown_call (x := x) G F.keep ?_ hlg (N _ (.head _)).1 (deeds_set hD' (deeds_at hD hx)) (by simp [hp']) R (by simp; lia) fun h' tk' hk' hs' hl' => ?_
    · have := frame_size F rfl; have := F.above; lia
    · refine s_nil (hQ _ _ hk' ?_ hl')
      have := frame_size F hL; lia
end
end Mine
namespace Mine
local macro_rules | `(tactic| walk_at "lk") => `(tactic| first | with_reducible exact upd_eq | (refine upd_ne (by rfl) ?_; walk_at "lk") | with_reducible assumption | rfl)
local macro_rules | `(tactic| walk_at "nm") => `(tactic| refine nmL (by with_reducible assumption) (by walk_at "lk") ?_)

def hpush {α : Type} (lt : α → α → Bool) (xs : List α) (x : α) : List α := siftdown lt x 0 xs.length (xs ++ [x])
/-- what lies in the heap behind heapreplace -/
def hrepl {α : Type} (lt : α → α → Bool) (xs : List α) (x : α) : List α := siftup lt x 0 (xs.set 0 x)

theorem item0 {α : Type} {xs : List α} (h : xs ≠ []) : ∃ x, xs[0]? = some x := by
  cases xs with
  | nil => exact absurd rfl h
  | cons x r => exact ⟨x, rfl⟩

section
variable {prog : Program} {w : World} {A : Around} {E : Value → Shared → Prop} {h : Heap} {gs : Array GenState} {dr : Drawn} {t : Nat} {os : OsState} {g : Heap} {l : Addr} {n : Nat} {ps : List AD} {Q : Value → Shared → Prop} {k : Nat}

theorem heappush_call {x : AD}
    (G : Gd w g) (hk : Keep g h) (hsz : g.objs.size ≤ h.objs.size) (hlg : g.get? l = none) (hl : h.get? l = some (listOf (refs ps).toArray n))
    (hD : DeedsAt g ps) (hx : DeedAt g x.1 x.2) (r : Room A (k + 2)) (hlen : ps.length ≤ 900)
    (hQ : ∀ h' tk n', Keep g h' → h.objs.size ≤ h'.objs.size → h'.get? l = some (listOf (refs (hpush alt ps x)).toArray n') → Q .none ⟨h', gs, dr, tk, os⟩) :
    wpAny (model prog w) A (call (.ref 21) [.ref l, .ref x.1]) Q E ⟨h, gs, dr, t, os⟩ := by
  refine callw G hk hsz r (f := 21) (binds := [(Str.ofString "heap", .ref l), (Str.ofString "item", .ref x.1)]) rfl rfl rfl (locs rfl) fun L h₁ A' E' tk hL R F hk₁ => ?_
  have N : News g L h₁ [(l, listOf (refs ps).toArray n)] := newsAt hk₁ hL (by simp [hl, hlg])
  refine s_expr (MethodCall_ ?_)
  walk_at "nm"
  refine l_meth (N _ (.head _)).1 PySem.F.slot_list_append PySem.F.type_list_append (c_blt (wpAny_items_cons ?_))
  walk_at "nm"
  refine wpAny_items_nil (l_app F N (by simp) (by simp; lia) fun h₂ F N => ?_)
  have e : refs ps ++ [Value.ref x.1] = refs (ps ++ [x]) := by simp
  rw [e] at N
  refine s_expr (Call_ ?_)
  refine nmG F G (v := .ref 56) rfl (c_def rfl (wpAny_items_cons ?_))
  walk_at "nm"
  refine wpAny_items_cons (e_int (wpAny_items_cons (wpAny_BinOp (Call_ ?_))))
  refine nmB F G rfl boot_len (by decide) (c_blt (wpAny_items_cons ?_))
  walk_at "nm"
  refine wpAny_items_nil (l_len (N _ (.head _)).1 (by simp; lia) fun te => ?_)
  refine e_int (o_subE (c := (ps.length : Nat)) (by simp) ?_)
  refine wpAny_items_nil ⟨G.K.keeps F.keep, ?_⟩
  refine siftdown_call (start := 0) (x := x) G F.keep ?_ hlg (N _ (.head _)).1 ?_ (by simp) R (by simp; lia) fun h' tk' hk' hs' hl' => ?_
  · have := frame_size F rfl; have := F.above; lia
  · intro p hp
    rcases List.mem_append.mp hp with hp | hp
    · exact hD p hp
    · rw [List.mem_singleton.mp hp]; exact hx
  · refine s_nil (hQ _ _ _ hk' ?_ hl')
    have := frame_size F hL; lia

theorem heapreplace_call {x y : AD}
    (G : Gd w g) (hk : Keep g h) (hsz : g.objs.size ≤ h.objs.size) (hlg : g.get? l = none) (hl : h.get? l = some (listOf (refs ps).toArray n))
    (hD : DeedsAt g ps) (hx : DeedAt g x.1 x.2) (r : Room A (k + 3)) (hlen : ps.length ≤ 900) (hy : ps[0]? = some y)
    (hQ : ∀ h' tk n', Keep g h' → h.objs.size ≤ h'.objs.size → h'.get? l = some (listOf (refs (hrepl alt ps x)).toArray n') → Q (.ref y.1) ⟨h', gs, dr, tk, os⟩) :
    wpAny (model prog w) A (call (.ref 35) [.ref l, .ref x.1]) Q E ⟨h, gs, dr, t, os⟩ := by
  refine callw G hk hsz r (f := 35) (binds := [(Str.ofString "heap", .ref l), (Str.ofString "item", .ref x.1)]) rfl rfl rfl (locs rfl) fun L h₁ A' E' tk hL R F hk₁ => ?_
  have N : News g L h₁ [(l, listOf (refs ps).toArray n)] := newsAt hk₁ hL (by simp [hl, hlg])
  have h0 : 0 < ps.length := (List.getElem?_eq_some_iff.mp hy).1
  refine s_asg (Subscript_ ?_)
  walk_at "nm"
  refine e_int (l_getN (i := 0) (N _ (.head _)).1 hy (by lia) ?_)
  refine sto F N fun h₂ F N => ?_
  refine s_sub ?_
  walk_at "nm"
  walk_at "nm"
  refine e_int (l_setN (i := 0) F N (by simp) h0 (by lia) fun h₃ F N => ?_)
  refine s_expr (Call_ ?_)
  refine nmG F G (v := .ref 63) rfl (c_def rfl (wpAny_items_cons ?_))
  walk_at "nm"
  refine wpAny_items_cons (e_int ?_)
  refine wpAny_items_nil ⟨G.K.keeps F.keep, ?_⟩
  refine siftup_call (pos := 0) (g := hideAll h₃ [l]) (x := x) (hid_gd G F N) hid_keep hid_size hid_none (N _ (.head _)).1 (fun p hp => (deeds_set hD hx p hp).keeps (hid_base F N)) (by simp [h0]) R (by simp; lia) fun h' tk' hk' hs' hl' => ?_
  have F := after_fr F N hk'
  have N := after_news N (by simp) hk' hl'
  refine s_ret ?_
  walk_at "nm"
  exact hQ _ _ _ F.keep (frame_size F hL) hl'

theorem heappushpop_call {x : AD}
    (G : Gd w g) (hk : Keep g h) (hsz : g.objs.size ≤ h.objs.size) (hlg : g.get? l = none) (hl : h.get? l = some (listOf (refs ps).toArray n))
    (hD : DeedsAt g ps) (hx : DeedAt g x.1 x.2) (r : Room A (k + 3)) (hlen : ps.length ≤ 900)
    (hQ : ∀ h' tk n', Keep g h' → h.objs.size ≤ h'.objs.size → (ps = [] ∨ ∃ y, ps[0]? = some y ∧ alt y x = false) → h'.get? l = some (listOf (refs ps).toArray n') → Q (.ref x.1) ⟨h', gs, dr, tk, os⟩)
    (hQ2 : ∀ y h' tk n', Keep g h' → h.objs.size ≤ h'.objs.size → ps[0]? = some y → alt y x = true → h'.get? l = some (listOf (refs (hrepl alt ps x)).toArray n') → Q (.ref y.1) ⟨h', gs, dr, tk, os⟩) :
    wpAny (model prog w) A (call (.ref 42) [.ref l, .ref x.1]) Q E ⟨h, gs, dr, t, os⟩ := by
  refine callw G hk hsz r (f := 42) (binds := [(Str.ofString "heap", .ref l), (Str.ofString "item", .ref x.1)]) rfl rfl rfl (locs rfl) fun L h₁ A' E' tk hL R F hk₁ => ?_
  have N : News g L h₁ [(l, listOf (refs ps).toArray n)] := newsAt hk₁ hL (by simp [hl, hlg])
  refine s_if (wpAny_isTrue_BoolOp (wpAny_allTrue_And_cons (wpAny_isTrue_value ?_)))
  walk_at "nm"
  refine l_true (N _ (.head _)).1 (by simp; lia) (ite_b (fun hb => ?_) fun hb => ?_)
  · have hne : ps ≠ [] := by intro e; simp [e] at hb
    obtain ⟨y, hy⟩ := item0 hne
    have h0 : 0 < ps.length := (List.getElem?_eq_some_iff.mp hy).1
    refine wpAny_allTrue_And_cons (wpAny_isTrue_Compare1 (Subscript_ ?_))
    walk_at "nm"
    refine e_int (l_getN (i := 0) (N _ (.head _)).1 hy (by lia) ?_)
    walk_at "nm"
    refine o_lt F (deeds_at hD hy) hx R (wpAny_truthy_bool (ite_b (fun hc => ?_) fun hc => ?_))
    · refine wpAny_allTrue_And_nil ?_
      simp only [if_true]
      refine s_tup (Tuple_ (wpAny_items_cons (Subscript_ ?_)))
      walk_at "nm"
      refine e_int (l_getN (i := 0) (N _ (.head _)).1 hy (by lia) (wpAny_items_cons ?_))
      walk_at "nm"
      refine wpAny_items_nil (n_tup F N (by simp) fun a h₂ F N hne hk₂ ha => ?_)
      refine a_tup F N ⟨_, (N _ (.head _)).1, rfl, _, rfl⟩ R rfl rfl fun h₃ F N => ?_
      refine assignInOrder_cons (wpAny_assign_Name ?_)
      refine sto F N fun h₄ F N => ?_
      refine assignInOrder_cons (a_sub ?_)
      walk_at "nm"
      have N := news_perm (rest' := [(l, listOf (refs ps).toArray n)]) N (by simp)
      refine e_int (l_setN (i := 0) F N (by simp) h0 (by lia) fun h₅ F N => ?_)
      refine assignInOrder_nil ?_
      refine s_expr (Call_ ?_)
      refine nmG F G (v := .ref 63) rfl (c_def rfl (wpAny_items_cons ?_))
      walk_at "nm"
      refine wpAny_items_cons (e_int ?_)
      refine wpAny_items_nil ⟨G.K.keeps F.keep, ?_⟩
      refine siftup_call (pos := 0) (g := hideAll h₅ [l]) (x := x) (hid_gd G F N) hid_keep hid_size hid_none (N _ (.head _)).1 (fun p hp => (deeds_set hD hx p hp).keeps (hid_base F N)) (by simp [h0]) R (by simp; lia) fun h' tk' hk' hs' hl' => ?_
      have F := after_fr F N hk'
      refine s_nil (then_next (s_ret ?_))
      walk_at "nm"
      exact hQ2 y _ _ _ F.keep (frame_size F hL) hy hc hl'
    · simp only [Bool.false_eq_true, if_false]
      refine s_nil (then_next (s_ret ?_))
      walk_at "nm"
      exact hQ _ _ _ F.keep (frame_size F hL) (.inr ⟨y, hy, hc⟩) (N _ (.head _)).1
  · simp only [Bool.false_eq_true, if_false]
    refine s_nil (then_next (s_ret ?_))
    walk_at "nm"
    refine hQ _ _ _ F.keep (frame_size F hL) (.inl ?_) (N _ (.head _)).1
    simpa using hb

/-- heappop of a heap that is not empty -/
theorem heappop_call {z : AD} {q : List AD}
    (G : Gd w g) (hk : Keep g h) (hsz : g.objs.size ≤ h.objs.size) (hlg : g.get? l = none) (hl : h.get? l = some (listOf (refs ps).toArray n))
    (hD : DeedsAt g ps) (r : Room A (k + 3)) (hlen : ps.length ≤ 900) (hq : ps = q ++ [z])
    (hQ : ∀ h' tk n', Keep g h' → h.objs.size ≤ h'.objs.size → q = [] → h'.get? l = some (listOf (refs []).toArray n') → Q (.ref z.1) ⟨h', gs, dr, tk, os⟩)
    (hQ2 : ∀ y h' tk n', Keep g h' → h.objs.size ≤ h'.objs.size → q[0]? = some y → h'.get? l = some (listOf (refs (hrepl alt q z)).toArray n') → Q (.ref y.1) ⟨h', gs, dr, tk, os⟩) :
    wpAny (model prog w) A (call (.ref 28) [.ref l]) Q E ⟨h, gs, dr, t, os⟩ := by
  subst hq
  refine callw G hk hsz r (f := 28) (binds := [(Str.ofString "heap", .ref l)]) rfl rfl rfl (locs rfl) fun L h₁ A' E' tk hL R F hk₁ => ?_
  have N : News g L h₁ [(l, listOf (refs (q ++ [z])).toArray n)] := newsAt hk₁ hL (by simp [hl, hlg])
  have hDq : DeedsAt g q := fun p hp => hD p (List.mem_append_left _ hp)
  have hz : DeedAt g z.1 z.2 := hD z (by simp)
  simp only [List.length_append, List.length_singleton] at hlen
  refine s_asg (MethodCall_ ?_)
  walk_at "nm"
  refine l_meth (N _ (.head _)).1 PySem.F.slot_list_pop PySem.F.type_list_pop (c_blt0 ?_)
  have e : refs (q ++ [z]) = refs q ++ [Value.ref z.1] := by simp
  rw [e] at N
  refine l_pop F N (by simp) (by simp; lia) fun h₂ F N => ?_
  refine sto F N fun h₃ F N => ?_
  refine s_if (wpAny_isTrue_value ?_)
  walk_at "nm"
  refine l_true (N _ (.head _)).1 (by simp; lia) (ite_b (fun hb => ?_) fun hb => ?_)
  · have hne : q ≠ [] := by intro e; simp [e] at hb
    obtain ⟨y, hy⟩ := item0 hne
    have h0 : 0 < q.length := (List.getElem?_eq_some_iff.mp hy).1
    refine s_asg (Subscript_ ?_)
    walk_at "nm"
    refine e_int (l_getN (i := 0) (N _ (.head _)).1 hy (by lia) ?_)
    refine sto F N fun h₂ F N => ?_
    refine s_sub ?_
    walk_at "nm"
    walk_at "nm"
    refine e_int (l_setN (i := 0) F N (by simp) h0 (by lia) fun h₃ F N => ?_)
    refine s_expr (Call_ ?_)
    refine nmG F G (v := .ref 63) rfl (c_def rfl (wpAny_items_cons ?_))
    walk_at "nm"
    refine wpAny_items_cons (e_int ?_)
    refine wpAny_items_nil ⟨G.K.keeps F.keep, ?_⟩
    refine siftup_call (pos := 0) (g := hideAll h₃ [l]) (x := z) (hid_gd G F N) hid_keep hid_size hid_none (N _ (.head _)).1 (fun p hp => (deeds_set hDq hz p hp).keeps (hid_base F N)) (by simp [h0]) R (by simp; lia) fun h' tk' hk' hs' hl' => ?_
    have F := after_fr F N hk'
    refine s_ret ?_
    walk_at "nm"
    exact hQ2 y _ _ _ F.keep (frame_size F hL) hy hl'
  · have hq0 : q = [] := by simpa using hb
    subst hq0
    refine s_nil (then_next (s_ret ?_))
    walk_at "nm"
    exact hQ _ _ _ F.keep (frame_size F hL) rfl (N _ (.head _)).1

end
end Mine
namespace Mine
local macro_rules | `(tactic| walk_at "lk") => `(tactic| first | with_reducible exact upd_eq | (refine upd_ne (by rfl) ?_; walk_at "lk") | with_reducible assumption | rfl)
local macro_rules | `(tactic| walk_at "nm") => `(tactic| refine nmL (by with_reducible assumption) (by walk_at "lk") ?_)

/-! reversed(range(..)) -/
theorem sub_ri_reversed : isSubtype (.type "range_iterator") (.type "reversed") = pure false := by rw [isSubtype_type]; kernel_rfl

section
variable {prog : Program} {w : World} {A : Around} {E : Value → Shared → Prop} {s : Shared}
abbrev rngIt (x left step : Int) : Obj := { cls := .type "range_iterator", data := .fields #[rawInt x, rawInt left, rawInt step] }

theorem as_int (i : Int) (t : Tok) : asInt? (.int i t) = pure (some i) := rfl
theorem call_range_rev {r : Addr} {n : Nat} {t u v : Tok} {Q : Value → Shared → Prop} (hr : IsRange s.heap r 0 n 1 t u v) (hn : n ≤ 1000)
    (h : Q (.ref s.heap.objs.size) { s with heap := s.heap.push (rngIt ((n : Int) - 1) n (-1)) }) : wpAny (model prog w) A (call (.builtin "range.__reversed__") [.ref r]) Q E s := by
  have hT : s.TypeIs (.ref r) "range" := ⟨_, hr, rfl⟩
  refine wpAny_call_entry F.slot_range_reversed hT F.entry_range_reversed ?_ (F.args_range_reversed_1 _)
  unfold Builtin.«range.__reversed__»
  refine wpAny_bind (wpAny_of_eq (a := Value.ref r) rfl ?_)
  have hsize : Builtin.Range.rangeSize 0 n 1 = n := by
    unfold Builtin.Range.rangeSize
    rw [if_pos (by decide)]
    split
    · rw [Int.ediv_one]; lia
    · lia
  have hlong : ∀ z : Int, -1000 ≤ z → z ≤ 1000 → Builtin.Range.rangeFitsLong z = true := by
    intro z h1 h2
    unfold Builtin.Range.rangeFitsLong
    simp only [Bool.and_eq_true, decide_eq_true_eq]
    lia
  refine wpAny_bind (m := Builtin.Range.rangeFields (.ref r)) ?_
  unfold Builtin.Range.rangeFields
  have f0 : ∀ {Q : Value → Shared → Prop}, Q (.int 0 t) s → wpAny (model prog w) A.in1 (field (.ref r) 0) Q E s := fun q => wpAny_field hr rfl (x := .int 0 t) rfl q
  have f1 : ∀ {Q : Value → Shared → Prop}, Q (.int n u) s → wpAny (model prog w) A.in1 (field (.ref r) 1) Q E s := fun q => wpAny_field hr rfl (x := .int n u) rfl q
  have f2 : ∀ {Q : Value → Shared → Prop}, Q (.int 1 v) s → wpAny (model prog w) A.in1 (field (.ref r) 2) Q E s := fun q => wpAny_field hr rfl (x := .int 1 v) rfl q
  refine wpAny_bind (f0 ?_)
  rw [as_int, pure_bind]
  refine wpAny_bind (f1 ?_)
  rw [as_int, pure_bind]
  refine wpAny_bind (f2 ?_)
  rw [as_int, pure_bind]
  refine wpAny_pure ?_
  dsimp only
  rw [hsize]
  have hs : (Builtin.Range.rangeFitsLong 0 && Builtin.Range.rangeFitsLong n && Builtin.Range.rangeFitsLong 1 && Builtin.Range.rangeFitsLong (-1) && Builtin.Range.rangeFitsLong (0 - 1) && Builtin.Range.rangeFitsLong n) = true := by
    rw [hlong 0 (by lia) (by lia), hlong n (by lia) (by lia), hlong 1 (by lia) (by lia), hlong (-1) (by lia) (by lia), hlong (0 - 1) (by lia) (by lia)]; rfl
  rw [hs]
  simp only [Bool.not_true, Bool.false_eq_true, if_false, if_true]
  rw [show (0 + ((n : Int) - 1) * 1) = (n : Int) - 1 by lia]
  exact wpAny_bind (wpAny_newObj_type (wpAny_pure ⟨_, rfl, h⟩))

theorem call_reversed_range {r : Addr} {n : Nat} {t u v : Tok} {Q : Value → Shared → Prop} (hr : IsRange s.heap r 0 n 1 t u v) (hn : n ≤ 1000)
    (h : Q (.ref s.heap.objs.size) { s with heap := s.heap.push (rngIt ((n : Int) - 1) n (-1)) }) : wpAny (model prog w) A (call (.type "reversed") [.ref r]) Q E s := by
  have hT : s.TypeIs (.ref r) "range" := ⟨_, hr, rfl⟩
  refine callType_other (U := "range_iterator") (Q₁ := fun obj s₁ => obj = .ref s.heap.objs.size ∧ s₁ = { s with heap := s.heap.push (rngIt ((n : Int) - 1) n (-1)) }) (by decide +kernel) F.create_reversed ⟨_, _, F.mro_reversed⟩ F.made_reversed sub_ri_reversed (F.typeCall_reversed_1 _) ?_ ?_
  · refine codeAny_of_tree ?_
    show wpAny _ A.in1.in1 (do checkBuiltinCall "reversed.__new__" ⟨[.type "reversed", .ref r], []⟩; again (.builtin "reversed.__new__" ⟨[.type "reversed", .ref r], []⟩)) _ _ s
    refine wpAny_bind (wpAny_of_eq (F.newCall_reversed_1 _) (wpAny_pure ⟨plainId_quiet F.plain_reversed_new _, codeAny_builtin F.entry_reversed_new ?_⟩))
    rw [Around.under_plainId F.plain_reversed_new _]
    unfold Builtin.«reversed.__new__»
    refine wpAny_bind (wpAny_of_eq (newClass_reversed _) ?_)
    try dsimp only
    refine wpAny_bind (wpAny_of_eq (a := ()) (by first | rfl | kernel_rfl) ?_)
    refine wpAny_bind (wpAny_of_eq (a := ()) (by first | rfl | kernel_rfl) ?_)
    try dsimp only
    refine wpAny_bind (wpAny_specialOf hT F.slot_range_reversed.lookup ?_)
    try dsimp only
    refine wpAny_bind (wpAny_of_eq (F.slot_range_reversed.bind _) ?_)
    try dsimp only
    rw [if_neg (show ¬ ((Value.builtin "range.__reversed__" == Value.none) = true) from Bool.false_ne_true)]
    refine wpAny_bind (wpAny_rule ?_)
    refine wpAny_bind (m := runValue (.call (.builtin "range.__reversed__") ⟨[.ref r], []⟩)) (show wpAny _ _ (call (.builtin "range.__reversed__") [.ref r]) _ _ _ from call_range_rev hr hn ?_)
    first
    | exact wpAny_pure ⟨rfl, rfl⟩
    | exact wpAny_bind (wpAny_pure (wpAny_pure ⟨rfl, rfl⟩))
  · rintro obj s₁ ⟨rfl, rfl⟩
    exact ⟨⟨_, Heap.get?_push_size _ rfl, rfl⟩, h⟩
end

/-! pure: lengths and members -/
theorem siftdown_length {α : Type} {lt : α → α → Bool} {x : α} {start : Nat} : ∀ (pos : Nat) (xs : List α), (siftdown lt x start pos xs).length = xs.length := by
  intro pos
  induction pos using Nat.strongRecOn with
  | ind pos ih =>
    intro xs
    rw [siftdown]
    split
    · split
      · split
        · rw [ih _ (by lia)]; simp
        · simp
      · simp
    · simp
theorem siftdown_mem {α : Type} {lt : α → α → Bool} {x : α} {start : Nat} : ∀ (pos : Nat) (xs : List α) (y : α), y ∈ siftdown lt x start pos xs → y ∈ xs ∨ y = x := by
  intro pos
  induction pos using Nat.strongRecOn with
  | ind pos ih =>
    intro xs y hy
    rw [siftdown] at hy
    split at hy
    · split at hy
      · rename_i p hp
        split at hy
        · rcases ih _ (by lia) _ _ hy with h | h
          · rcases List.mem_or_eq_of_mem_set h with h | rfl
            · exact .inl h
            · exact .inl (List.mem_of_getElem? hp)
          · exact .inr h
        · exact List.mem_or_eq_of_mem_set hy
      · exact List.mem_or_eq_of_mem_set hy
    · exact List.mem_or_eq_of_mem_set hy
theorem siftGo_facts {α : Type} {lt : α → α → Bool} : ∀ (k : Nat) (xs : List α) (pos : Nat), xs.length - pos ≤ k → pos < xs.length →
    (siftGo lt xs pos).1.length = xs.length ∧ (siftGo lt xs pos).2 < xs.length ∧ pos ≤ (siftGo lt xs pos).2 ∧ ∀ y ∈ (siftGo lt xs pos).1, y ∈ xs := by
  intro k
  induction k with
  | zero => intro xs pos h1 h2; lia
  | succ k ih =>
    intro xs pos h1 h2
    by_cases hc : 2 * pos + 1 < xs.length
    · have hb := child_bounds (lt := lt) hc
      obtain ⟨c, hcc⟩ : ∃ c, xs[child lt xs pos]? = some c := ⟨_, List.getElem?_eq_getElem hb.2.2⟩
      rw [siftGo_step hc hcc]
      obtain ⟨a1, a2, a3, a4⟩ := ih (xs.set pos c) (child lt xs pos) (by simp only [List.length_set]; lia) (by simp only [List.length_set]; lia)
      simp only [List.length_set] at a1 a2
      refine ⟨a1, a2, by lia, fun y hy => ?_⟩
      rcases List.mem_or_eq_of_mem_set (a4 y hy) with h | rfl
      · exact h
      · exact List.mem_of_getElem? hcc
    · rw [siftGo_end hc]; exact ⟨rfl, h2, Nat.le_refl _, fun _ h => h⟩
theorem siftup_length {α : Type} {lt : α → α → Bool} {x : α} {xs : List α} {pos : Nat} (h : pos < xs.length) : (siftup lt x pos xs).length = xs.length := by
  unfold siftup
  rw [siftdown_length, List.length_set, (siftGo_facts _ xs pos (Nat.le_refl _) h).1]
theorem siftup_mem {α : Type} {lt : α → α → Bool} {x : α} {xs : List α} {pos : Nat} (h : pos < xs.length) {y : α} (hy : y ∈ siftup lt x pos xs) : y ∈ xs ∨ y = x := by
  unfold siftup at hy
  rcases siftdown_mem _ _ _ hy with h1 | h1
  · rcases List.mem_or_eq_of_mem_set h1 with h2 | h2
    · exact .inl ((siftGo_facts _ xs pos (Nat.le_refl _) h).2.2.2 y h2)
    · exact .inr h2
  · exact .inr h1

def hifyGo {α : Type} (lt : α → α → Bool) : Nat → List α → List α
  | 0, xs => xs
  | k + 1, xs => match xs[k]? with
    | some x => hifyGo lt k (siftup lt x k xs)
    | none => xs
def hify {α : Type} (lt : α → α → Bool) (xs : List α) : List α := hifyGo lt (xs.length / 2) xs

/-! ledger: iterators of a range -/
section
variable {prog : Program} {w : World} {A : Around} {E : Value → Shared → Prop} {h : Heap} {g : Array GenState} {d : Drawn} {t : Nat} {o : OsState}
  {h₀ : Heap} {L : Addr} {m : Str → Option Value} {news : List (Addr × Obj)}
theorem n_obj {ob : Obj} (F : Fr h₀ L h m) (N : News h₀ L h news) (hf : ob.isFreed = false) : Fr h₀ L (h.push ob) m ∧ News h₀ L (h.push ob) ((h.objs.size, ob) :: news) ∧ (∀ p ∈ news, p.1 ≠ h.objs.size) ∧ Keep h (h.push ob) ∧ h.get? h.objs.size = none :=
  ⟨F.push _, N.push F _ hf, fun p hp => Nat.ne_of_lt (Heap.lt_size (N p hp).1), fun _ _ e => Heap.get?_push_of_some _ e, Heap.get?_none_of_le (Nat.le_refl _)⟩
theorem led_same {I : Addr} {oI oI' : Obj} {h' : Heap} (F : Fr h₀ L h m) (N : News h₀ L h ((I, oI) :: news)) (hr : ∀ p ∈ news, p.1 ≠ I) (hs : Heap.SameBut I h h') (ho : h'.get? I = some oI') : Fr h₀ L h' m ∧ News h₀ L h' ((I, oI') :: news) :=
  ⟨F.change hs (N _ (.head _)).2.1 (N _ (.head _)).2.2, news_set (pre := []) N (fun _ h => nomatch h) hr hs ho⟩
theorem led_ext {I : Addr} {oI : Obj} {h' : Heap} (F : Fr h₀ L h m) (N : News h₀ L h ((I, oI) :: news)) (hr : ∀ p ∈ news, p.1 ≠ I) (hs : Heap.ExtBut I h h') : Fr h₀ L h' m ∧ News h₀ L h' news := by
  obtain ⟨oL, es, ep, hL, r⟩ := F.ns
  have z := N _ (.head _)
  refine ⟨⟨⟨oL, es, ep, hs _ _ (Ne.symm z.2.1) hL, r⟩, fun b x e => hs b x (fun q => ?_) (F.keep b x e), F.above⟩, fun p hp => ⟨hs _ _ (hr p hp) (N _ (.tail _ hp)).1, (N _ (.tail _ hp)).2⟩⟩
  have z3 := z.2.2
  rw [q] at e; rw [z3] at e; cases e
theorem x_rng {I : Addr} {x left step : Int} {Q : Option Value → Shared → Prop} (F : Fr h₀ L h m) (N : News h₀ L h ((I, rngIt x left step) :: news)) (hr : ∀ p ∈ news, p.1 ≠ I) (hl : 0 < left)
    (q : ∀ h', Fr h₀ L h' m → News h₀ L h' ((I, rngIt (x + step) (left - 1) step) :: news) → Q (some (.int x t)) ⟨h', g, d, t + 1, o⟩) : wpAny (model prog w) A (pyNext (.ref I)) Q E ⟨h, g, d, t, o⟩ :=
  wpAny_pyNext_range_item (s := ⟨h, g, d, t, o⟩) (N _ (.head _)).1 hl fun h' hi hs => let ⟨a, b⟩ := led_same F N hr hs hi; q h' a b
theorem x_rng0 {I : Addr} {x left step : Int} {Q : Option Value → Shared → Prop} {j : Nat} (r : Room A j) (F : Fr h₀ L h m) (N : News h₀ L h ((I, rngIt x left step) :: news)) (hr : ∀ p ∈ news, p.1 ≠ I) (hl : left ≤ 0)
    (q : ∀ h', Fr h₀ L h' m → News h₀ L h' news → Q none ⟨h', g, d, t, o⟩) : wpAny (model prog w) A (pyNext (.ref I)) Q E ⟨h, g, d, t, o⟩ :=
  wpAny_pyNext_range_end (s := ⟨h, g, d, t, o⟩) r.handled (N _ (.head _)).1 hl fun h' hs => let ⟨a, b⟩ := led_ext F N hr hs; q h' a b
end

section
variable {prog : Program} {w : World} {A : Around} {E : Value → Shared → Prop} {h : Heap} {gs : Array GenState} {dr : Drawn} {t : Nat} {os : OsState} {g : Heap} {l : Addr} {n : Nat} {ps : List AD} {Q : Value → Shared → Prop} {k : Nat}

inductive B7_I1 (gs : Array GenState) (dr : Drawn) (os : OsState) (g : Heap) (L : Addr) (l : Addr) (n : Nat) (ps : List AD) (it : Value) (nn : Nat) (s' : Shared) : Prop
  | mk (h : Heap) (m : Str → Option Value) (ps' : List AD) (tk : Nat) (I : Addr) : (s' = ⟨h, gs, dr, tk, os⟩) → (it = .ref I) → (Fr g L h m) → (News g L h [(I, rngIt ((nn : Int) - 1) nn (-1)), (l, listOf (refs ps').toArray n)]) → (l ≠ I) → (m (Str.ofString "x") = some (.ref l)) → (ps'.length = ps.length) → (nn ≤ ps'.length / 2) → (DeedsAt g ps') → (hifyGo alt nn ps' = hify alt ps) → B7_I1 gs dr os g L l n ps it nn s'
inductive B7_I2 (gs : Array GenState) (dr : Drawn) (os : OsState) (g : Heap) (L : Addr) (l : Addr) (ps : List AD) (n : Nat) (s' : Shared) : Prop
  | mk (h : Heap) (m : Str → Option Value) (tk : Nat) : (s' = ⟨h, gs, dr, tk, os⟩) → (Fr g L h m) → (News g L h [(l, listOf (refs (hify alt ps)).toArray n)]) → B7_I2 gs dr os g L l ps n s'
theorem heapify_call
    (G : Gd w g) (hk : Keep g h) (hsz : g.objs.size ≤ h.objs.size) (hlg : g.get? l = none) (hl : h.get? l = some (listOf (refs ps).toArray n))
    (hD : DeedsAt g ps) (r : Room A (k + 3)) (hlen : ps.length ≤ 900)
    (hQ : ∀ h' tk n', Keep g h' → h.objs.size ≤ h'.objs.size → h'.get? l = some (listOf (refs (hify alt ps)).toArray n') → Q .none ⟨h', gs, dr, tk, os⟩) :
    wpAny (model prog w) A (call (.ref 49) [.ref l]) Q E ⟨h, gs, dr, t, os⟩ := by
  refine callw G hk hsz r (f := 49) (binds := [(Str.ofString "x", .ref l)]) rfl rfl rfl (locs rfl) fun L h₁ A' E' tk hL R F hk₁ => ?_
  have N : News g L h₁ [(l, listOf (refs ps).toArray n)] := newsAt hk₁ hL (by simp [hl, hlg])
  refine s_asg (Call_ ?_)
  refine nmB F G rfl boot_len (by decide) (c_blt (wpAny_items_cons ?_))
  walk_at "nm"
  refine wpAny_items_nil (l_len (N _ (.head _)).1 (by simp; lia) fun te => ?_)
  refine sto F N fun h₂ F N => ?_
  refine s_forJ (B7_I1 gs dr os g L l n ps)
    (B7_I2 gs dr os g L l ps n) ?iter ?turn ?done
  case iter =>
    refine Call_ (nmB F G rfl boot_reversed (by decide) (callWith_type1 (wpAny_items_cons (Call_ (nmB F G rfl boot_range (by decide) (callWith_type1 (wpAny_items_cons (wpAny_BinOp ?_))))))))
    walk_at "nm"
    refine e_int (o_divE (c := (ps.length / 2 : Nat)) (by decide) (PyProof.noPylong_small (by decide)) ?_ (wpAny_items_nil ?_))
    · rw [Int.fdiv_eq_ediv_of_nonneg _ (by decide)]; simp
    refine call_range_1 ?_
    obtain ⟨F, N, hne, -, -⟩ := n_obj (ob := { cls := .type "range", data := .fields #[.int 0 (tk + 1 + 1 + 1 + 1 + 1), .int (ps.length / 2 : Nat) (tk + 1 + 1 + 1 + 1), .int 1 (tk + 1 + 1 + 1 + 1 + 1 + 1)] }) F N rfl
    refine wpAny_items_nil (call_reversed_range (n := ps.length / 2) (N _ (.head _)).1 (by lia) ?_)
    obtain ⟨F, N, hne, -, -⟩ := n_obj (ob := rngIt (((ps.length / 2 : Nat) : Int) - 1) (ps.length / 2 : Nat) (-1)) F N rfl
    refine wpAny_pyIter_rangeiter (N _ (.head _)).1 ⟨⟨ps.length / 2, _, _, ps, _, _, rfl, rfl, F, news_perm N (by simp), (hne _ (.tail _ (.head _))), by walk_at "lk", rfl, Nat.le_refl _, hD, rfl⟩, fun v => rfl⟩
  case turn =>
    rintro it nn s' ⟨h, m, ps', tk, I, rfl, rfl, F, N, hlI, m1, hlen', hnn, hD', hh⟩
    cases nn with
    | zero =>
      refine x_rng0 R F N (by simpa using hlI) (by lia) fun h' F N => ?_
      refine ⟨_, _, _, rfl, F, ?_⟩
      have : ps' = hify alt ps := hh
      rw [← this]; exact N
    | succ nn =>
      refine x_rng F N (by simpa using hlI) (by lia) fun h' F N => ?_
      refine wpAny_assign_Name (sto F N fun h₃ F N => ?_)
      have hi : nn < ps'.length := by lia
      obtain ⟨x, hx⟩ : ∃ x, ps'[nn]? = some x := ⟨_, List.getElem?_eq_getElem hi⟩
      refine s_expr (Call_ ?_)
      refine nmG F G (v := .ref 63) rfl (c_def rfl (wpAny_items_cons ?_))
      walk_at "nm"
      refine wpAny_items_cons ?_
      walk_at "nm"
      refine wpAny_items_nil ⟨G.K.keeps F.keep, ?_⟩
      have N := news_perm (rest' := [(l, listOf (refs ps').toArray n), (I, rngIt ((nn : Int) - 1) nn (-1))]) N (by
        rw [show ((nn + 1 : Nat) : Int) - 1 + -1 = (nn : Int) - 1 by lia, show ((nn + 1 : Nat) : Int) - 1 = (nn : Int) by lia]; simp)
      rw [show ((nn + 1 : Nat) : Int) - 1 = (nn : Int) by lia]
      refine siftup_call (pos := nn) (g := hideAll h₃ [l]) (x := x) (hid_gd G F N) hid_keep hid_size hid_none (N _ (.head _)).1 (fun p hp => (hD' p hp).keeps (hid_base F N)) hx R (by lia) fun h' tk' hk' hs' hl' => ?_
      have F := after_fr F N hk'
      have N := after_news N (by simpa using Ne.symm hlI) hk' hl'
      refine s_nil ⟨nn, by lia, _, _, siftup alt x nn ps', _, I, rfl, rfl, F, news_perm N (by simp), hlI, by walk_at "lk", by rw [siftup_length hi]; exact hlen', by rw [siftup_length hi]; lia, fun p hp => ?_, ?_⟩
      · rcases siftup_mem hi hp with h | rfl
        · exact hD' p h
        · exact deeds_at hD' hx
      · rw [← hh, hifyGo, hx]
  case done =>
    rintro s' ⟨h, m, tk, rfl, F, N⟩
    exact s_nil (hQ _ _ _ F.keep (frame_size F hL) (N _ (.head _)).1)
end
end Mine
namespace Mine
local macro_rules | `(tactic| walk_at "lk") => `(tactic| first | with_reducible exact upd_eq | (refine upd_ne (by rfl) ?_; walk_at "lk") | with_reducible assumption | rfl)
local macro_rules | `(tactic| walk_at "nm") => `(tactic| refine nmL (by with_reducible assumption) (by walk_at "lk") ?_)

def back (d : Deed) : Deed := ⟨d.hour + d.span, d.place, 1, d.name, 1, d.bits, 0⟩

theorem ints_un {vs : List Value} {n : Int} {ns : List Int} (h : IntsAre vs (n :: ns)) : ∃ t vs', vs = .int n t :: vs' ∧ IntsAre vs' ns := by
  cases h with | cons _ t h => exact ⟨t, _, rfl, h⟩
theorem ints_nil {vs : List Value} (h : IntsAre vs []) : vs = [] := by cases h; rfl
theorem deed_vals {vals : List Value} {d : Deed} (h : IntsAre vals d.toL) : ∃ t0 t1 t2 t3 t4 t5 t6, vals = [.int d.hour t0, .int d.place t1, .int d.stage t2, .int d.name t3, .int d.kind t4, .int d.bits t5, .int d.span t6] := by
  unfold Deed.toL at h
  obtain ⟨t0, _, rfl, g0⟩ := ints_un h
  obtain ⟨t1, _, rfl, g1⟩ := ints_un g0
  obtain ⟨t2, _, rfl, g2⟩ := ints_un g1
  obtain ⟨t3, _, rfl, g3⟩ := ints_un g2
  obtain ⟨t4, _, rfl, g4⟩ := ints_un g3
  obtain ⟨t5, _, rfl, g5⟩ := ints_un g4
  obtain ⟨t6, _, rfl, g6⟩ := ints_un g5
  obtain rfl := ints_nil g6
  exact ⟨t0, t1, t2, t3, t4, t5, t6, rfl⟩

section
variable {prog : Program} {w : World} {A : Around} {E : Value → Shared → Prop} {h : Heap} {gs : Array GenState} {dr : Drawn} {t : Nat} {os : OsState} {Q : Value → Shared → Prop} {k : Nat}

theorem back_call {a : Addr} {d : Deed} (G : Gd w h) (hd : DeedAt h a d) (r : Room A (k + 1))
    (hQ : ∀ b vals h' tk, Keep h h' → h.objs.size ≤ h'.objs.size → h.get? b = none → h'.get? b = some (tupOf vals) → IntsAre vals (back d).toL → Q (.ref b) ⟨h', gs, dr, tk, os⟩) :
    wpAny (model prog w) A (call (.ref 131) [.ref a]) Q E ⟨h, gs, dr, t, os⟩ := by
  refine callw G (fun _ _ e => e) (Nat.le_refl _) r (f := 131) (binds := [(Str.ofString "deed", .ref a)]) rfl rfl rfl (locs rfl) fun L h₁ A' E' tk hL R F hk₁ => ?_
  have N : News h L h₁ [] := News.nil
  obtain ⟨vals, ht, hi⟩ := hd
  obtain ⟨t0, t1, t2, t3, t4, t5, t6, rfl⟩ := deed_vals hi
  refine s_tup ?_
  walk_at "nm"
  refine a_tup F N (ht.keeps F.keep) R rfl rfl fun h₂ F N => ?_
  refine assignInOrder_cons (wpAny_assign_Name (sto F N fun h₂ F N => ?_))
  refine assignInOrder_cons (wpAny_assign_Name (sto F N fun h₂ F N => ?_))
  refine assignInOrder_cons (wpAny_assign_Name (sto F N fun h₂ F N => ?_))
  refine assignInOrder_cons (wpAny_assign_Name (sto F N fun h₂ F N => ?_))
  refine assignInOrder_cons (wpAny_assign_Name (sto F N fun h₂ F N => ?_))
  refine assignInOrder_cons (wpAny_assign_Name (sto F N fun h₂ F N => ?_))
  refine assignInOrder_cons (wpAny_assign_Name (sto F N fun h₂ F N => ?_))
  refine assignInOrder_nil ?_
  refine s_ret (Tuple_ (wpAny_items_cons (wpAny_BinOp ?_)))
  walk_at "nm"
  walk_at "nm"
  refine o_add (wpAny_items_cons ?_)
  walk_at "nm"
  refine wpAny_items_cons (e_int (wpAny_items_cons ?_))
  walk_at "nm"
  refine wpAny_items_cons (e_int (wpAny_items_cons ?_))
  walk_at "nm"
  refine wpAny_items_cons (e_int (wpAny_items_nil (n_tup F N (by simp) fun b h₃ F N hne hk₂ hb => ?_)))
  refine hQ b _ _ _ F.keep (frame_size F hL) (N _ (.head _)).2.2 (N _ (.head _)).1 ?_
  unfold back Deed.toL
  exact .cons _ _ (.cons _ _ (.cons _ _ (.cons _ _ (.cons _ _ (.cons _ _ (.cons _ _ .nil))))))

/-! the empty heap: IndexError -/
theorem heappop_raise {base g : Heap} {outer : List Env} {news : List (Addr × Obj)} {l : Addr} {n : Nat} (K : Below A base outer g) (G : Gd w g) (hk : Keep g h) (hsz : g.objs.size ≤ h.objs.size)
    (hn : ∀ p ∈ news, h.get? p.1 = some p.2 ∧ g.get? p.1 = none) (hl : (l, listOf ([] : List Value).toArray n) ∈ news) (r : Room A (k + 1))
    (hE : ∀ e h' tk, RaisedSN base g outer e (.type "IndexError") news h' → g.UpToSlots h' → E (.ref e) ⟨h', gs, dr, tk, os⟩) :
    wpAny (model prog w) A (call (.ref 28) [.ref l]) Q E ⟨h, gs, dr, t, os⟩ := by
  refine wpAny_call (enter (s := ⟨h, gs, dr, t, os⟩) G hk hsz r.lt (f := 28) (binds := [(Str.ofString "heap", .ref l)]) rfl rfl rfl (locs rfl) fun h₁ F hk₁ => ?_)
  have N : News g h.objs.size h₁ news := newsAt hk₁ rfl hn
  have z := N _ hl
  refine s_asg (MethodCall_ ?_)
  refine nmL F (by rfl) ?_
  refine l_meth (vs := []) z.1 PySem.F.slot_list_pop PySem.F.type_list_pop (c_blt0 ?_)
  refine call_meets PySem.F.slot_list_pop ⟨_, z.1, rfl⟩ PySem.F.entry_list_pop (PySem.F.args_list_pop_1 _) (AutoSeq1.list_pop_list_0 l #[] n rfl) ⟨z.1, r.handled, fun h' tk e hx => ?_⟩
  exact leave_newS (s' := ⟨h', gs, dr, tk, os⟩) K hx F N fun h'' R _ hu => hE e h'' _ R hu

theorem heapreplace_raise {base g : Heap} {outer : List Env} {news : List (Addr × Obj)} {l : Addr} {n : Nat} {v : Value} (K : Below A base outer g) (G : Gd w g) (hk : Keep g h) (hsz : g.objs.size ≤ h.objs.size)
    (hn : ∀ p ∈ news, h.get? p.1 = some p.2 ∧ g.get? p.1 = none) (hl : (l, listOf ([] : List Value).toArray n) ∈ news) (r : Room A (k + 1))
    (hE : ∀ e h' tk, RaisedSN base g outer e (.type "IndexError") news h' → g.UpToSlots h' → E (.ref e) ⟨h', gs, dr, tk, os⟩) :
    wpAny (model prog w) A (call (.ref 35) [.ref l, v]) Q E ⟨h, gs, dr, t, os⟩ := by
  refine wpAny_call (enter (s := ⟨h, gs, dr, t, os⟩) G hk hsz r.lt (f := 35) (binds := [(Str.ofString "heap", .ref l), (Str.ofString "item", v)]) rfl rfl rfl (locs rfl) fun h₁ F hk₁ => ?_)
  have N : News g h.objs.size h₁ news := newsAt hk₁ rfl hn
  have z := N _ hl
  refine s_asg (Subscript_ ?_)
  refine nmL F (by rfl) (e_int ?_)
  refine item_outK (items := #[]) r.handled ⟨_, z.1, rfl, _, rfl⟩ (.inr (by simp)) (by decide) (by decide) fun h' tk e hx => ?_
  exact leave_newS (s' := ⟨h', gs, dr, tk, os⟩) K hx F N fun h'' R _ hu => hE e h'' _ R hu
end
end Mine
namespace Mine
local macro_rules | `(tactic| walk_at "lk") => `(tactic| first | with_reducible exact upd_eq | (refine upd_ne (by rfl) ?_; walk_at "lk") | with_reducible assumption | rfl)
local macro_rules | `(tactic| walk_at "nm") => `(tactic| refine nmL (by with_reducible assumption) (by walk_at "lk") ?_)

/-! min of a list of tuples -/
def minFrom {α : Type} (lt : α → α → Bool) (b : α) : List α → α
  | [] => b
  | x :: r => minFrom lt (if lt x b then x else b) r

theorem keep_same {g h h' : Heap} {a : Addr} (k : Keep g h) (hg : g.get? a = none) (hs : Heap.SameBut a h h') : Keep g h' := fun b o e => (hs.2 b (fun q => by rw [q, hg] at e; cases e)).trans (k b o e)
theorem keep_ext {g h h' : Heap} {a : Addr} (k : Keep g h) (hg : g.get? a = none) (hs : Heap.ExtBut a h h') : Keep g h' := fun b o e => hs b o (fun q => by rw [q, hg] at e; cases e) (k b o e)

section
variable {prog : Program} {w : World} {A : Around} {E : Value → Shared → Prop} {gs : Array GenState} {dr : Drawn} {os : OsState} {g : Heap} {l I S : Addr} {ps : List AD} {R : Result → Shared → Prop} {k : Nat}

theorem min_loop (r : Room A k) (hD : DeedsAt g ps) (hl : g.IsList l (refs ps).toArray) (hIg : g.get? I = none) (hSg : g.get? S = none) (hIS : I ≠ S) :
    ∀ (rest : List AD) (i : Nat) (b : AD) (h : Heap) (tk c : Nat), ps.drop i = rest → Keep g h → h.IsListIter I l i → h.get? S = some (listOf [Value.ref b.1, Value.ref b.1].toArray c) → DeedAt g b.1 b.2 →
    (∀ h' tk', Keep g h' → R (.ok (.ret (.ref (minFrom alt b rest).1))) ⟨h', gs, dr, tk', os⟩) →
    codeAny (model prog w) A (.builtin "min.loop" ⟨[.ref I, .none, .ref S], []⟩) R ⟨h, gs, dr, tk, os⟩ := by
  have hname : (toString "min" ++ toString ".loop" : String) = "min.loop" := by decide
  have hlist : ∀ h, Keep g h → h.IsList l (refs ps).toArray := fun h kp => let ⟨o, ho, x⟩ := hl; ⟨o, kp _ _ ho, x⟩
  have hlI : l ≠ I := fun e => by obtain ⟨o, ho, _⟩ := hl; rw [e, hIg] at ho; cases ho
  have hdeed : ∀ (x y : AD) (s : Shared) (Q : Value → Shared → Prop) (E : Value → Shared → Prop), Keep g s.heap → DeedAt g x.1 x.2 → DeedAt g y.1 y.2 → Q (.bool (alt x y)) s → wpAny (model prog w) A.in1 (richCompare .Lt (.ref x.1) (.ref y.1)) Q E s := by
    intro x y s Q E kp hx hy hq
    obtain ⟨vx, tx, ix⟩ := hx
    obtain ⟨vy, ty, iy⟩ := hy
    exact lt_tup (s := s) (tx.keeps kp) (ty.keeps kp) ix iy (by have := r.units; show A.units + 1 < cLine; omega) hq
  intro rest
  induction rest with
  | nil =>
    intro i b h tk c hdrop kp hit hS hb hR
    have hi : (refs ps).toArray[i]? = none := by
      have : ps.length ≤ i := by simpa using hdrop
      simp; omega
    refine codeAny_builtin PySem.F.entry_min_loop ?_
    rw [Around.under_plainId PySem.F.plain_min_loop _]
    show wpAny _ A.in1 (seqItems? (.ref S) >>= _) _ _ _
    refine wpAny_bind (wpAny_seqItems hS rfl ?_)
    show wpAny _ A.in1 (tryCatch (pyNext (.ref I)) _ >>= _) _ _ _
    refine wpAny_bind (wpAny_tryCatch (wpAny_pyNext_list_end (s := ⟨h, gs, dr, tk, os⟩) r.handled hit (hlist _ kp) hi fun h' he => ?_))
    have hS' := he S _ (Ne.symm hIS) hS
    show wpAny _ A.in1 (updateSeq S (fun _ => #[]) >>= _) _ _ _
    refine wpAny_bind ?_
    refine wpAny_updateSeq (s := ⟨h', gs, dr, tk, os⟩) hS' rfl (wpAny_bind (wpAny_letGo (wpAny_pure ?_)))
    exact hR _ _ (keep_same (keep_ext kp hIg he) hSg (Heap.SameBut.update ..))
  | cons x rest ih =>
    intro i b h tk c hdrop kp hit hS hb hR
    have hi : i < ps.length := by
      have := congrArg List.length hdrop; simp at this; omega
    have hxi : ps[i]? = some x := by
      have : (ps.drop i)[0]? = some x := by rw [hdrop]; rfl
      simpa using this
    have hdrop' : ps.drop (i + 1) = rest := by
      have : (ps.drop i).drop 1 = rest := by rw [hdrop]; rfl
      rw [List.drop_drop] at this; exact this
    refine codeAny_builtin PySem.F.entry_min_loop ?_
    rw [Around.under_plainId PySem.F.plain_min_loop _]
    show wpAny _ A.in1 (seqItems? (.ref S) >>= _) _ _ _
    refine wpAny_bind (wpAny_seqItems hS rfl ?_)
    show wpAny _ A.in1 (tryCatch (pyNext (.ref I)) _ >>= _) _ _ _
    refine wpAny_bind (wpAny_tryCatch (wpAny_pyNext_list_item (s := ⟨h, gs, dr, tk, os⟩) (x := .ref x.1) hit (hlist _ kp) (by simp [hxi]) fun h' hit' hs' => ?_))
    have kp' := keep_same kp hIg hs'
    have hS' : h'.get? S = _ := (hs'.2 S (Ne.symm hIS)).trans hS
    show wpAny _ A.in1 (tryCatch (holding [Value.ref x.1, Value.ref x.1] (richCompare .Lt (.ref x.1) (.ref b.1) >>= _)) _ >>= _) _ _ _
    refine wpAny_bind (wpAny_tryCatch (wpAny_holding (wpAny_bind (hdeed x b _ _ _ kp' (deeds_at hD hxi) hb ?_))))
    refine wpAny_bind (wpAny_holding (wpAny_truthy_bool ?_))
    refine wpAny_bind (wpAny_letGo (wpAny_pure ?_))
    cases hlt : alt x b with
    | true =>
      simp only [if_true]
      refine wpAny_bind ?_
      refine wpAny_updateSeq (s := ⟨h', gs, dr, tk, os⟩) hS' rfl (wpAny_bind (wpAny_letGo ?_))
      rw [hname]
      refine wpAny_pure ⟨plainId_quiet PySem.F.plain_min_loop _, ih (i + 1) x _ _ _ hdrop' (keep_same kp' hSg (Heap.SameBut.update ..)) (hit'.extBut (Heap.SameBut.update ..).extBut hIS) (Heap.get?_update_self _ hS' rfl) (deeds_at hD hxi) fun h'' tk' kp'' => ?_⟩
      have e : minFrom alt b (x :: rest) = minFrom alt x rest := by simp [minFrom, hlt]
      rw [e] at hR; exact hR _ _ kp''
    | false =>
      simp only [Bool.false_eq_true, if_false]
      refine wpAny_bind (wpAny_letGo ?_)
      rw [hname]
      refine wpAny_pure ⟨plainId_quiet PySem.F.plain_min_loop _, ih (i + 1) b _ _ _ hdrop' kp' hit' hS' hb fun h'' tk' kp'' => ?_⟩
      have e : minFrom alt b (x :: rest) = minFrom alt b rest := by simp [minFrom, hlt]
      rw [e] at hR; exact hR _ _ kp''

theorem min_call {h : Heap} {tk n : Nat} {x : AD} {rest : List AD} {Q : Value → Shared → Prop} (r : Room A k) (hD : DeedsAt h ps) (hl : h.get? l = some (listOf (refs ps).toArray n)) (hp : ps = x :: rest)
    (hQ : ∀ h' tk', Keep h h' → Q (.ref (minFrom alt x rest).1) ⟨h', gs, dr, tk', os⟩) :
    wpAny (model prog w) A (call (.builtin "min") [.ref l]) Q E ⟨h, gs, dr, tk, os⟩ := by
  have hname : (toString "min" ++ toString ".loop" : String) = "min.loop" := by decide
  have hL : h.IsList l (refs ps).toArray := ⟨_, hl, rfl, _, rfl⟩
  have hli : l < h.objs.size := Heap.lt_size hl
  refine call_function_tree PySem.F.kind_min PySem.F.plain_min PySem.F.entry_min (PySem.F.args_min1 _) ?_
  show wpAny _ A.in1 (Builtin.Builtins.bindParams "min" ["key", "default"] 0 ⟨[], []⟩ >>= _) _ _ _
  refine wpAny_bind (wpAny_of_eq (show Builtin.Builtins.bindParams "min" ["key", "default"] 0 ⟨[], []⟩ = pure [none, none] from rfl) ?_)
  refine wpAny_bind (wpAny_pure ?_)
  refine wpAny_bind (wpAny_pyIter_list (s := ⟨h, gs, dr, tk, os⟩) hL ?_)
  refine wpAny_bind (wpAny_newObj_type ?_)
  rw [hname]
  refine wpAny_pure ⟨plainId_quiet PySem.F.plain_min_loop _, ?_⟩
  have hsz : (h.push { cls := .type "list_iterator", data := .fields #[.ref l, .int 0 0] }).objs.size = h.objs.size + 1 := Heap.size_push _ _
  have kp : Keep h ((h.push { cls := .type "list_iterator", data := .fields #[.ref l, .int 0 0] }).push { cls := .type "list", data := .seq #[] }) := fun _ _ e => Heap.get?_push_of_some _ (Heap.get?_push_of_some _ e)
  have hit : ((h.push { cls := .type "list_iterator", data := .fields #[.ref l, .int 0 0] }).push { cls := .type "list", data := .seq #[] }).IsListIter h.objs.size l 0 := ⟨_, Heap.get?_push_of_some _ (Heap.get?_push_size _ rfl), rfl, rfl⟩
  have hS : ((h.push { cls := .type "list_iterator", data := .fields #[.ref l, .int 0 0] }).push { cls := .type "list", data := .seq #[] }).get? (h.objs.size + 1) = some (listOf #[] 0) := by
    rw [← hsz]; exact Heap.get?_push_size _ rfl
  show codeAny _ A (.builtin "min.loop" ⟨[.ref h.objs.size, .none, .ref (h.push _).objs.size], []⟩) _ ⟨(h.push _).push _, gs, dr, tk, os⟩
  rw [hsz]
  generalize ((h.push { cls := .type "list_iterator", data := .fields #[.ref l, .int 0 0] }).push { cls := .type "list", data := .seq #[] }) = h₁ at kp hit hS
  have hIg : h.get? h.objs.size = none := Heap.get?_none_of_le (Nat.le_refl _)
  have hSg : h.get? (h.objs.size + 1) = none := Heap.get?_none_of_le (Nat.le_succ _)
  have hIS : h.objs.size ≠ h.objs.size + 1 := by omega
  refine codeAny_builtin PySem.F.entry_min_loop ?_
  rw [Around.under_plainId PySem.F.plain_min_loop _]
  show wpAny _ A.in1 (seqItems? (.ref (h.objs.size + 1)) >>= _) _ _ _
  refine wpAny_bind (wpAny_seqItems hS rfl ?_)
  show wpAny _ A.in1 (tryCatch (pyNext (.ref h.objs.size)) _ >>= _) _ _ _
  have hL₁ : h₁.IsList l (refs ps).toArray := ⟨_, kp _ _ hl, rfl, _, rfl⟩
  refine wpAny_bind (wpAny_tryCatch (wpAny_pyNext_list_item (s := ⟨h₁, gs, dr, tk, os⟩) (x := .ref x.1) hit hL₁ (by simp [hp]) fun h' hit' hs' => ?_))
  have kp' := keep_same kp hIg hs'
  have hS' : h'.get? (h.objs.size + 1) = _ := (hs'.2 _ (Ne.symm hIS)).trans hS
  show wpAny _ A.in1 (updateSeq (h.objs.size + 1) (fun _ => #[Value.ref x.1, Value.ref x.1]) >>= _) _ _ _
  refine wpAny_bind ?_
  refine wpAny_updateSeq (s := ⟨h', gs, dr, tk, os⟩) hS' rfl ?_
  rw [hname]
  refine wpAny_pure ⟨plainId_quiet PySem.F.plain_min_loop _, min_loop r hD hL hIg hSg hIS rest 1 x _ _ _ (by simp [hp]) (keep_same kp' hSg (Heap.SameBut.update ..)) (hit'.extBut (Heap.SameBut.update ..).extBut hIS) (Heap.get?_update_self _ hS' rfl) (hD x (by simp [hp])) fun h'' tk' kp'' => ?_⟩
  exact hQ _ _ kp''
end
end Mine
namespace Mine

/-! orders -/
structure Ord {α : Type} (lt : α → α → Bool) : Prop where
  irrefl : ∀ a, lt a a = false
  asymm : ∀ a b, lt a b = true → lt b a = false
  ntrans : ∀ a b c, lt b a = false → lt c b = false → lt c a = false
abbrev le {α : Type} (lt : α → α → Bool) (a b : α) : Prop := lt b a = false
theorem Ord.refl {α : Type} {lt : α → α → Bool} (o : Ord lt) (a : α) : le lt a a := o.irrefl a
theorem Ord.trans {α : Type} {lt : α → α → Bool} (o : Ord lt) {a b c : α} (h1 : le lt a b) (h2 : le lt b c) : le lt a c := o.ntrans a b c h1 h2
theorem Ord.of_lt {α : Type} {lt : α → α → Bool} (o : Ord lt) {a b : α} (h : lt a b = true) : le lt a b := o.asymm a b h

theorem lexLt_irrefl : ∀ xs : List Int, lexLt xs xs = false
  | [] => rfl
  | x :: xs => by simp [lexLt, lexLt_irrefl xs]
theorem lexLt_asymm : ∀ xs ys : List Int, lexLt xs ys = true → lexLt ys xs = false
  | [], [], h => by simp [lexLt] at h
  | [], _ :: _, _ => rfl
  | _ :: _, [], h => by simp [lexLt] at h
  | x :: xs, y :: ys, h => by
    unfold lexLt at h ⊢
    by_cases e : x = y
    · subst e; simp at h ⊢; exact lexLt_asymm xs ys h
    · have e' : ¬ y = x := fun q => e q.symm
      simp [e, e'] at h ⊢; lia
theorem lexLt_ntrans : ∀ xs ys zs : List Int, lexLt ys xs = false → lexLt zs ys = false → lexLt zs xs = false
  | [], ys, [], _, _ => rfl
  | _ :: _, [], [], h, _ => by simp [lexLt] at h
  | x :: xs, y :: ys, [], _, h => by simp [lexLt] at h
  | [], ys, z :: zs, _, _ => rfl
  | x :: xs, [], z :: zs, h, _ => by simp [lexLt] at h
  | x :: xs, y :: ys, z :: zs, h1, h2 => by
    unfold lexLt at h1 h2 ⊢
    by_cases e1 : y = x
    · by_cases e2 : z = y
      · subst e1; subst e2
        simp at h1 h2 ⊢
        exact lexLt_ntrans xs ys zs h1 h2
      · subst e1
        simp [e2] at h2 ⊢; lia
    · by_cases e2 : z = y
      · subst e2
        simp [e1] at h1 ⊢; lia
      · simp [e1, e2] at h1 h2
        have : ¬ z = x := by lia
        simp [this]; lia
theorem lexLt_total : ∀ xs ys : List Int, xs.length = ys.length → lexLt xs ys = false → lexLt ys xs = false → xs = ys
  | [], [], _, _, _ => rfl
  | x :: xs, y :: ys, hl, h1, h2 => by
    unfold lexLt at h1 h2
    by_cases e : x = y
    · subst e; simp at h1 h2 hl
      rw [lexLt_total xs ys hl h1 h2]
    · have e' : ¬ y = x := fun q => e q.symm
      simp [e, e'] at h1 h2; lia
theorem dlt_ord : Ord dlt := ⟨fun _ => lexLt_irrefl _, fun _ _ => lexLt_asymm _ _, fun _ _ _ => lexLt_ntrans _ _ _⟩
theorem alt_ord : Ord alt := ⟨fun _ => lexLt_irrefl _, fun _ _ => lexLt_asymm _ _, fun _ _ _ => lexLt_ntrans _ _ _⟩
theorem Deed.toL_inj {a b : Deed} (h : a.toL = b.toL) : a = b := by
  obtain ⟨a1, a2, a3, a4, a5, a6, a7⟩ := a
  obtain ⟨b1, b2, b3, b4, b5, b6, b7⟩ := b
  simp [Deed.toL] at h
  obtain ⟨rfl, rfl, rfl, rfl, rfl, rfl, rfl⟩ := h
  rfl
theorem dlt_total {a b : Deed} (h1 : dlt a b = false) (h2 : dlt b a = false) : a = b := Deed.toL_inj (lexLt_total _ _ rfl h1 h2)

/-! a sorted list of the same things is the same list -/
abbrev Sorted (l : List Deed) : Prop := l.Pairwise (le dlt)
theorem sorted_unique : ∀ {a b : List Deed}, a.Perm b → Sorted a → Sorted b → a = b
  | [], b, p, _, _ => by rw [List.Perm.nil_eq p]
  | x :: a, b, p, sa, sb => by
    cases b with
    | nil => exact absurd p.symm (List.not_perm_nil_cons _ _)
    | cons y b =>
      have hx : x ∈ y :: b := p.mem_iff.mp (List.mem_cons_self ..)
      have hy : y ∈ x :: a := p.mem_iff.mpr (List.mem_cons_self ..)
      have e : x = y := by
        rcases List.mem_cons.mp hx with h | h
        · exact h
        · rcases List.mem_cons.mp hy with h' | h'
          · exact h'.symm
          · exact dlt_total ((List.pairwise_cons.mp sb).1 x h) ((List.pairwise_cons.mp sa).1 y h')
      subst e
      rw [sorted_unique (List.Perm.cons_inv p) (List.pairwise_cons.mp sa).2 (List.pairwise_cons.mp sb).2]

/-! heaps -/
def IsHeap {α : Type} (lt : α → α → Bool) (xs : List α) : Prop := ∀ i a b, 0 < i → xs[i]? = some a → xs[(i - 1) / 2]? = some b → le lt b a
theorem IsHeap.root {α : Type} {lt : α → α → Bool} (o : Ord lt) {y : α} {r : List α} (h : IsHeap lt (y :: r)) : ∀ z ∈ r, le lt y z := by
  have key : ∀ (i : Nat) a, (y :: r)[i]? = some a → le lt y a := by
    intro i
    induction i using Nat.strongRecOn with
    | ind i ih =>
      intro a ha
      by_cases h0 : i = 0
      · subst h0; simp at ha; subst ha; exact o.refl _
      · have hi : i < (y :: r).length := (List.getElem?_eq_some_iff.mp ha).1
        obtain ⟨b, hb⟩ : ∃ b, (y :: r)[(i - 1) / 2]? = some b := ⟨_, List.getElem?_eq_getElem (by lia)⟩
        exact o.trans (ih _ (by lia) b hb) (h i a b (by lia) ha hb)
  intro z hz
  obtain ⟨i, hi, e⟩ := List.getElem_of_mem hz
  exact key (i + 1) z (by simp [hi, e])

/-! the course -/
def backsOf (l : List Deed) : List Deed := (l.filter fun d => d.kind == 2).map back
theorem backsOf_append (a b : List Deed) : backsOf (a ++ b) = backsOf a ++ backsOf b := by simp [backsOf]
theorem backsOf_perm {a b : List Deed} (p : a.Perm b) : (backsOf a).Perm (backsOf b) := (p.filter _).map _
def bk (d : Deed) : List Deed := if d.kind = 2 then [back d] else []
theorem backsOf_cons (d : Deed) (l : List Deed) : backsOf (d :: l) = bk d ++ backsOf l := by
  unfold backsOf bk
  by_cases h : d.kind = 2 <;> simp [h]
theorem backsOf_bk (d : Deed) : backsOf (bk d) = [] := by
  unfold bk backsOf
  by_cases h : d.kind = 2 <;> simp [h, back]

structure P2 (all H out : List Deed) : Prop where
  perm : (out ++ H ++ backsOf H).Perm all
  sorted : Sorted out
  low : ∀ o ∈ out, ∀ x ∈ H, le dlt o x
  good : ∀ x ∈ H, x.kind = 2 → 0 ≤ x.span ∧ x.stage = 0
def P2.m (H : List Deed) : Nat := H.length + (backsOf H).length

theorem le_back {d : Deed} (h1 : 0 ≤ d.span) (h2 : d.stage = 0) : le dlt d (back d) := by
  show lexLt (back d).toL d.toL = false
  unfold back Deed.toL
  unfold lexLt
  by_cases e : d.span = 0
  · simp only [e, Int.add_zero, if_true]
    unfold lexLt
    simp only [if_true]
    unfold lexLt
    simp [h2]
  · have : ¬ d.hour + d.span = d.hour := by lia
    simp [this]; lia
theorem P2.congr {all H H' out : List Deed} (P : P2 all H out) (p : H.Perm H') : P2 all H' out :=
  ⟨(((p.symm.append_left out).append (backsOf_perm p.symm))).trans P.perm, P.sorted, fun o ho x hx => P.low o ho x (p.mem_iff.mpr hx), fun x hx => P.good x (p.mem_iff.mpr hx)⟩
theorem P2.m_perm {H H' : List Deed} (p : H.Perm H') : P2.m H = P2.m H' := by unfold P2.m; rw [p.length_eq, (backsOf_perm p).length_eq]
theorem P2.turn {all H K out : List Deed} {d : Deed} (P : P2 all H out) (p : H.Perm (d :: K)) (hmin : ∀ x ∈ K, le dlt d x) : P2 all (K ++ bk d) (out ++ [d]) ∧ P2.m (K ++ bk d) < P2.m H := by
  have P' := P.congr p
  have hd : ∀ o ∈ out, le dlt o d := fun o ho => P'.low o ho d (List.mem_cons_self ..)
  have hbk : ∀ x ∈ bk d, le dlt d x ∧ x.kind ≠ 2 := by
    intro x hx
    unfold bk at hx
    split at hx
    · rename_i hk
      rw [List.mem_singleton.mp hx]
      obtain ⟨g1, g2⟩ := P'.good d (List.mem_cons_self ..) hk
      exact ⟨le_back g1 g2, by simp [back]⟩
    · cases hx
  refine ⟨⟨?_, ?_, ?_, ?_⟩, ?_⟩
  · have e := P'.perm
    rw [backsOf_cons] at e
    refine List.Perm.trans ?_ e
    rw [backsOf_append, backsOf_bk, List.append_nil]
    simp only [List.append_assoc, List.cons_append, List.nil_append]
    exact List.Perm.refl _
  · refine List.pairwise_append.mpr ?_
    exact ⟨P.sorted, List.pairwise_singleton .., fun a ha b hb => by rw [List.mem_singleton.mp hb]; exact hd a ha⟩
  · intro o ho x hx
    rcases List.mem_append.mp ho with ho | ho
    · rcases List.mem_append.mp hx with hx | hx
      · exact P'.low o ho x (List.mem_cons_of_mem _ hx)
      · exact dlt_ord.trans (hd o ho) (hbk x hx).1
    · rw [List.mem_singleton.mp ho]
      rcases List.mem_append.mp hx with hx | hx
      · exact hmin x hx
      · exact (hbk x hx).1
  · intro x hx hk
    rcases List.mem_append.mp hx with hx | hx
    · exact P'.good x (List.mem_cons_of_mem _ hx) hk
    · exact absurd hk (hbk x hx).2
  · rw [P2.m_perm p]
    unfold P2.m
    rw [backsOf_append, backsOf_bk, backsOf_cons]
    simp only [List.length_append, List.length_cons, List.append_nil]
    lia
theorem P2.start {H : List Deed} (g : ∀ x ∈ H, x.kind = 2 → 0 ≤ x.span ∧ x.stage = 0) : P2 (H ++ backsOf H) H [] := ⟨by simp, List.Pairwise.nil, (fun _ h => nomatch h), g⟩
theorem P2.fin {all out : List Deed} (P : P2 all [] out) : out.Perm all ∧ Sorted out := ⟨by simpa [backsOf] using P.perm, P.sorted⟩
end Mine
namespace Mine
local macro_rules | `(tactic| walk_at "lk") => `(tactic| first | with_reducible exact upd_eq | (refine upd_ne (by rfl) ?_; walk_at "lk") | with_reducible assumption | rfl)
local macro_rules | `(tactic| walk_at "nm") => `(tactic| refine nmL (by with_reducible assumption) (by walk_at "lk") ?_)

/-- a deed of the ground or of the ledger -/
def DIn (g : Heap) (bks : List (Addr × Obj)) (p : AD) : Prop := DeedAt g p.1 p.2 ∨ ∃ vals, (p.1, tupOf vals) ∈ bks ∧ IntsAre vals p.2.toL
section
variable {w : World} {g h : Heap} {L l : Addr} {m : Str → Option Value} {bks rest : List (Addr × Obj)} {p : AD}
theorem DIn.at (x : DIn g bks p) (F : Fr g L h m) (N : News g L h rest) (hs : ∀ q ∈ bks, q ∈ rest) : DeedAt h p.1 p.2 := by
  rcases x with x | ⟨vals, hm, hi⟩
  · exact x.keeps F.keep
  · exact ⟨vals, ⟨_, (N _ (hs _ hm)).1, rfl, _, rfl⟩, hi⟩
theorem DIn.more (x : DIn g bks p) {q : Addr × Obj} : DIn g (q :: bks) p := x.imp id fun ⟨v, a, b⟩ => ⟨v, .tail _ a, b⟩
theorem DIn.new {b : Addr} {vals : List Value} {d : Deed} (hi : IntsAre vals d.toL) : DIn g ((b, tupOf vals) :: bks) (b, d) := .inr ⟨vals, .head _, hi⟩
theorem deed_hid {a : Addr} {d : Deed} {vs : Array Value} {n : Nat} (x : DeedAt h a d) (hl : h.get? l = some (listOf vs n)) : DeedAt (hideAll h [l]) a d := by
  obtain ⟨vals, ⟨o, ho, hc, r⟩, hi⟩ := x
  refine ⟨vals, ⟨o, hid_get ho (fun e => ?_), hc, r⟩, hi⟩
  subst e
  rw [hl] at ho; cases ho
  exact absurd (show Value.type "list" = Value.type "tuple" from hc) (by decide)
end

section
variable {prog : Program} {w : World} {A : Around} {E : Value → Shared → Prop} {h : Heap} {gs : Array GenState} {dr : Drawn} {t : Nat} {os : OsState} {g : Heap} {L l : Addr} {n : Nat} {ps : List AD} {Q : Value → Shared → Prop} {k : Nat}
  {m : Str → Option Value} {bks rest : List (Addr × Obj)}

theorem c_push {x : AD} (G : Gd w g) (F : Fr g L h m) (N : News g L h ((l, listOf (refs ps).toArray n) :: rest)) (hr : ∀ p ∈ rest, p.1 ≠ l) (hs : ∀ q ∈ bks, q ∈ rest) (hD : ∀ p ∈ ps, DIn g bks p) (hx : DIn g bks x) (r : Room A (k + 2)) (hlen : ps.length ≤ 900)
    (q : ∀ h' tk n', Fr g L h' m → News g L h' ((l, listOf (refs (hpush alt ps x)).toArray n') :: rest) → Q .none ⟨h', gs, dr, tk, os⟩) :
    wpAny (model prog w) A (call (.ref 21) [.ref l, .ref x.1]) Q E ⟨h, gs, dr, t, os⟩ :=
  have hl := (N _ (.head _)).1
  have hs' : ∀ q ∈ bks, q ∈ (l, listOf (refs ps).toArray n) :: rest := fun q hq => .tail _ (hs q hq)
  heappush_call (hid_gd G F N) hid_keep hid_size hid_none hl (fun p hp => deed_hid ((hD p hp).at F N hs') hl) (deed_hid (hx.at F N hs') hl) r hlen fun h' tk n' hk _ hl' => q h' tk n' (after_fr F N hk) (after_news N hr hk hl')

theorem c_repl {x y : AD} (G : Gd w g) (F : Fr g L h m) (N : News g L h ((l, listOf (refs ps).toArray n) :: rest)) (hr : ∀ p ∈ rest, p.1 ≠ l) (hs : ∀ q ∈ bks, q ∈ rest) (hD : ∀ p ∈ ps, DIn g bks p) (hx : DIn g bks x) (r : Room A (k + 3)) (hlen : ps.length ≤ 900) (hy : ps[0]? = some y)
    (q : ∀ h' tk n', Fr g L h' m → News g L h' ((l, listOf (refs (hrepl alt ps x)).toArray n') :: rest) → Q (.ref y.1) ⟨h', gs, dr, tk, os⟩) :
    wpAny (model prog w) A (call (.ref 35) [.ref l, .ref x.1]) Q E ⟨h, gs, dr, t, os⟩ :=
  have hl := (N _ (.head _)).1
  have hs' : ∀ q ∈ bks, q ∈ (l, listOf (refs ps).toArray n) :: rest := fun q hq => .tail _ (hs q hq)
  heapreplace_call (hid_gd G F N) hid_keep hid_size hid_none hl (fun p hp => deed_hid ((hD p hp).at F N hs') hl) (deed_hid (hx.at F N hs') hl) r hlen hy fun h' tk n' hk _ hl' => q h' tk n' (after_fr F N hk) (after_news N hr hk hl')

theorem c_pushpop {x : AD} (G : Gd w g) (F : Fr g L h m) (N : News g L h ((l, listOf (refs ps).toArray n) :: rest)) (hr : ∀ p ∈ rest, p.1 ≠ l) (hs : ∀ q ∈ bks, q ∈ rest) (hD : ∀ p ∈ ps, DIn g bks p) (hx : DIn g bks x) (r : Room A (k + 3)) (hlen : ps.length ≤ 900)
    (q : ∀ h' tk n', Fr g L h' m → (ps = [] ∨ ∃ y, ps[0]? = some y ∧ alt y x = false) → News g L h' ((l, listOf (refs ps).toArray n') :: rest) → Q (.ref x.1) ⟨h', gs, dr, tk, os⟩)
    (q2 : ∀ y h' tk n', Fr g L h' m → ps[0]? = some y → alt y x = true → News g L h' ((l, listOf (refs (hrepl alt ps x)).toArray n') :: rest) → Q (.ref y.1) ⟨h', gs, dr, tk, os⟩) :
    wpAny (model prog w) A (call (.ref 42) [.ref l, .ref x.1]) Q E ⟨h, gs, dr, t, os⟩ :=
  have hl := (N _ (.head _)).1
  have hs' : ∀ q ∈ bks, q ∈ (l, listOf (refs ps).toArray n) :: rest := fun q hq => .tail _ (hs q hq)
  heappushpop_call (hid_gd G F N) hid_keep hid_size hid_none hl (fun p hp => deed_hid ((hD p hp).at F N hs') hl) (deed_hid (hx.at F N hs') hl) r hlen (fun h' tk n' hk _ hc hl' => q h' tk n' (after_fr F N hk) hc (after_news N hr hk hl'))
    fun y h' tk n' hk _ hy hc hl' => q2 y h' tk n' (after_fr F N hk) hy hc (after_news N hr hk hl')

theorem c_pop {z : AD} {c : List AD} (G : Gd w g) (F : Fr g L h m) (N : News g L h ((l, listOf (refs ps).toArray n) :: rest)) (hr : ∀ p ∈ rest, p.1 ≠ l) (hs : ∀ q ∈ bks, q ∈ rest) (hD : ∀ p ∈ ps, DIn g bks p) (r : Room A (k + 3)) (hlen : ps.length ≤ 900) (hc : ps = c ++ [z])
    (q : ∀ h' tk n', Fr g L h' m → c = [] → News g L h' ((l, listOf (refs []).toArray n') :: rest) → Q (.ref z.1) ⟨h', gs, dr, tk, os⟩)
    (q2 : ∀ y h' tk n', Fr g L h' m → c[0]? = some y → News g L h' ((l, listOf (refs (hrepl alt c z)).toArray n') :: rest) → Q (.ref y.1) ⟨h', gs, dr, tk, os⟩) :
    wpAny (model prog w) A (call (.ref 28) [.ref l]) Q E ⟨h, gs, dr, t, os⟩ :=
  have hl := (N _ (.head _)).1
  have hs' : ∀ q ∈ bks, q ∈ (l, listOf (refs ps).toArray n) :: rest := fun q hq => .tail _ (hs q hq)
  heappop_call (hid_gd G F N) hid_keep hid_size hid_none hl (fun p hp => deed_hid ((hD p hp).at F N hs') hl) r hlen hc (fun h' tk n' hk _ he hl' => q h' tk n' (after_fr F N hk) he (after_news N hr hk hl'))
    fun y h' tk n' hk _ hy hl' => q2 y h' tk n' (after_fr F N hk) hy (after_news N hr hk hl')

theorem c_hify (G : Gd w g) (F : Fr g L h m) (N : News g L h ((l, listOf (refs ps).toArray n) :: rest)) (hr : ∀ p ∈ rest, p.1 ≠ l) (hs : ∀ q ∈ bks, q ∈ rest) (hD : ∀ p ∈ ps, DIn g bks p) (r : Room A (k + 3)) (hlen : ps.length ≤ 900)
    (q : ∀ h' tk n', Fr g L h' m → News g L h' ((l, listOf (refs (hify alt ps)).toArray n') :: rest) → Q .none ⟨h', gs, dr, tk, os⟩) :
    wpAny (model prog w) A (call (.ref 49) [.ref l]) Q E ⟨h, gs, dr, t, os⟩ :=
  have hl := (N _ (.head _)).1
  have hs' : ∀ q ∈ bks, q ∈ (l, listOf (refs ps).toArray n) :: rest := fun q hq => .tail _ (hs q hq)
  heapify_call (hid_gd G F N) hid_keep hid_size hid_none hl (fun p hp => deed_hid ((hD p hp).at F N hs') hl) r hlen fun h' tk n' hk _ hl' => q h' tk n' (after_fr F N hk) (after_news N hr hk hl')

theorem c_min {x : AD} {c : List AD} (F : Fr g L h m) (N : News g L h rest) (hm : (l, listOf (refs ps).toArray n) ∈ rest) (hs : ∀ q ∈ bks, q ∈ rest) (hD : ∀ p ∈ ps, DIn g bks p) (r : Room A k) (hp : ps = x :: c)
    (q : ∀ h' tk, Fr g L h' m → News g L h' rest → Q (.ref (minFrom alt x c).1) ⟨h', gs, dr, tk, os⟩) : wpAny (model prog w) A (call (.builtin "min") [.ref l]) Q E ⟨h, gs, dr, t, os⟩ :=
  min_call r (fun p hp => (hD p hp).at F N hs) (N _ hm).1 hp fun h' tk hk => q h' tk (kept_fr F hk) (kept_news N hk)

theorem c_back {x : AD} (G : Gd w g) (F : Fr g L h m) (N : News g L h rest) (hs : ∀ q ∈ bks, q ∈ rest) (hx : DIn g bks x) (r : Room A (k + 1))
    (q : ∀ b vals h' tk, Fr g L h' m → News g L h' ((b, tupOf vals) :: rest) → (∀ p ∈ rest, p.1 ≠ b) → IntsAre vals (back x.2).toL → Q (.ref b) ⟨h', gs, dr, tk, os⟩) :
    wpAny (model prog w) A (call (.ref 131) [.ref x.1]) Q E ⟨h, gs, dr, t, os⟩ :=
  back_call (G.keeps F.keep) (hx.at F N hs) r fun b vals h' tk hk _ hb hb' hi => by
    have hne : ∀ p ∈ rest, p.1 ≠ b := fun p hp e => by have := (N p hp).1; rw [e, hb] at this; cases this
    refine q b vals h' tk (kept_fr F hk) (fun p hp => ?_) hne hi
    rcases List.mem_cons.mp hp with rfl | hp
    · refine ⟨hb', fun e => ?_, ?_⟩
      · obtain ⟨oL, _, _, hL, _⟩ := F.ns
        rw [← e] at hL; rw [hb] at hL; cases hL
      · cases q : g.get? b with
        | none => rfl
        | some o => have := F.keep _ _ q; rw [hb] at this; cases this
    · exact kept_news N hk p hp

/-- a slice of a list -/
theorem l_slice {value slice : Expr} {vs zs : List Value} {vl vu : Value} {lo hi : Option Int} (F : Fr g L h m) (N : News g L h rest) (hl : h.IsList l vs.toArray) (pl : IsPart vl lo) (pu : IsPart vu hi) (e : slicePick vs.toArray lo hi none = zs.toArray) (hz : vs.length ≤ 1000)
    (q : ∀ D h', Fr g L h' m → News g L h' ((D, listOf zs.toArray 0) :: rest) → (∀ p ∈ rest, p.1 ≠ D) → Q (.ref D) ⟨h', gs, dr, t, os⟩)
    (hs : subscripted slice false (.ref l) (.ref h.objs.size) = operate [.ref h.objs.size, .ref l] (getItem (.ref l) (.ref h.objs.size)) := by with_unfolding_all rfl)
    (ht : ∀ r, letTemporaryGo value (.ref l) r = pure () := by intro _; with_unfolding_all rfl) :
    wpAny (model prog w) A (subscriptTail value slice (.ref l) (.ref h.objs.size)) Q E ⟨h.push { cls := .type "slice", data := .fields #[vl, vu, .none] }, gs, dr, t, os⟩ := by
  refine kmk_slice (s := ⟨h, gs, dr, t, os⟩) F N hl pl pu (fun D h' F' N' hlt => q D h' F' ?_ fun p hp => Nat.ne_of_lt (hlt p hp)) hs ht (by rw [List.size_toArray, sizeLine_eq]; lia)
  rw [e] at N'; exact N'
theorem pick_to (vs : List Value) (b : Nat) (hb : b ≤ vs.length) : slicePick vs.toArray none (some (b : Int)) none = (vs.take b).toArray := by
  rw [slicePick_upto _ b (by simpa using hb)]
theorem pick_from' (vs : List Value) (b : Nat) (hb : b ≤ vs.length) : slicePick vs.toArray (some (b : Int)) none none = (vs.drop b).toArray := by
  rw [slicePick_from _ b (by simpa using hb)]
end
end Mine
namespace Mine
section
variable {α : Type} {lt : α → α → Bool} {xs r : List α} {x y : α} {s pos : Nat}

/-! the same things -/
theorem swap_perm {p : α} {i j : Nat} (hi : i < xs.length) (hj : xs[j]? = some p) (hij : j ≠ i) : ((xs.set i p).set j x).Perm (xs.set i x) := by
  obtain ⟨hj', ej⟩ := List.getElem?_eq_some_iff.mp hj
  have e := List.set_set_perm (as := xs.set i x) (i := i) (j := j) (by simpa using hi) (by simpa using hj')
  simp only [List.set_set, List.getElem_set_self] at e
  rw [List.getElem_set_ne (fun q => hij q.symm)] at e
  rw [ej] at e
  exact e
theorem siftdown_perm : ∀ {pos : Nat} {xs : List α}, pos < xs.length → (siftdown lt x s pos xs).Perm (xs.set pos x) := by
  intro pos
  induction pos using Nat.strongRecOn with
  | ind pos ih =>
    intro xs hp
    rw [siftdown]
    split
    · rename_i hs
      split
      · rename_i p hpar
        split
        · have hq : (pos - 1) / 2 < pos := by lia
          exact (ih _ hq (by simp; lia)).trans (swap_perm hp hpar (by lia))
        · exact .rfl
      · exact .rfl
    · exact .rfl
theorem siftGo_perm (n : Nat) : ∀ {pos : Nat} {xs : List α}, xs.length - pos ≤ n → pos < xs.length → (siftGo lt xs pos).2 < (siftGo lt xs pos).1.length ∧ ((siftGo lt xs pos).1.set (siftGo lt xs pos).2 x).Perm (xs.set pos x) := by
  induction n with
  | zero => intro pos xs h1 h2; lia
  | succ n ih =>
    intro pos xs h1 h2
    by_cases hc : 2 * pos + 1 < xs.length
    · have b := child_bounds (lt := lt) hc
      have hg := List.getElem?_eq_getElem b.2.2
      rw [siftGo_step hc hg]
      have := ih (pos := child lt xs pos) (xs := xs.set pos (xs[child lt xs pos]'b.2.2)) (by simp; lia) (by simp; lia)
      exact ⟨this.1, this.2.trans (swap_perm h2 hg (by lia))⟩
    · rw [siftGo_end hc]; exact ⟨h2, .rfl⟩
theorem siftup_perm (h : pos < xs.length) : (siftup lt x pos xs).Perm (xs.set pos x) := by
  have a := siftGo_perm (lt := lt) (x := x) (xs.length - pos) (Nat.le_refl _) h
  unfold siftup
  refine (siftdown_perm (by simpa using a.1)).trans ?_
  rw [List.set_set]; exact a.2
theorem hpush_perm : (hpush lt xs x).Perm (x :: xs) := by
  unfold hpush
  refine (siftdown_perm (by simp)).trans ?_
  rw [List.set_append_right _ _ (Nat.le_refl _)]
  simp only [Nat.sub_self, List.set_cons_zero]
  exact List.perm_append_comm
theorem hrepl_perm : (hrepl lt (y :: r) x).Perm (x :: r) := by
  unfold hrepl
  exact (siftup_perm (by simp)).trans (by simp)
theorem hifyGo_perm : ∀ {k : Nat} {xs : List α}, (hifyGo lt k xs).Perm xs
  | 0, _ => .rfl
  | k + 1, xs => by
    unfold hifyGo
    split
    · rename_i z hz
      obtain ⟨hk, e⟩ := List.getElem?_eq_some_iff.mp hz
      refine hifyGo_perm.trans ((siftup_perm hk).trans ?_)
      rw [← e, List.set_getElem_self]
    · exact .rfl
theorem hify_perm : (hify lt xs).Perm xs := hifyGo_perm

/-! heaps -/
inductive Desc (s : Nat) : Nat → Prop
  | refl : Desc s s
  | l {p} : Desc s p → Desc s (2 * p + 1)
  | r {p} : Desc s p → Desc s (2 * p + 2)
theorem Desc.ge : ∀ {p : Nat}, Desc s p → s ≤ p := by
  intro p h
  induction h with
  | refl => exact Nat.le_refl _
  | l _ ih => lia
  | r _ ih => lia
theorem Desc.par {p : Nat} (h : Desc s p) (hs : s < p) : Desc s ((p - 1) / 2) := by
  cases h with
  | refl => lia
  | @l q h => rw [show (2 * q + 1 - 1) / 2 = q by lia]; exact h
  | @r q h => rw [show (2 * q + 2 - 1) / 2 = q by lia]; exact h
def HF (lt : α → α → Bool) (s : Nat) (xs : List α) : Prop := ∀ i a b, 0 < i → s ≤ (i - 1) / 2 → xs[i]? = some a → xs[(i - 1) / 2]? = some b → le lt b a
def HA (lt : α → α → Bool) (s pos : Nat) (xs : List α) : Prop := ∀ i a b, 0 < i → i ≠ pos → (i - 1) / 2 ≠ pos → s ≤ (i - 1) / 2 → xs[i]? = some a → xs[(i - 1) / 2]? = some b → le lt b a
def HC (lt : α → α → Bool) (s pos : Nat) (xs : List α) : Prop := s < pos → ∀ c a b, 0 < c → (c - 1) / 2 = pos → xs[c]? = some a → xs[(pos - 1) / 2]? = some b → le lt b a
def HB (lt : α → α → Bool) (x : α) (pos : Nat) (xs : List α) : Prop := ∀ c a, 0 < c → (c - 1) / 2 = pos → xs[c]? = some a → le lt x a

theorem set_at {i j : Nat} {v a : α} (h : (xs.set i v)[j]? = some a) : (i = j ∧ a = v) ∨ (i ≠ j ∧ xs[j]? = some a) := by
  by_cases e : i = j
  · subst e
    rw [List.getElem?_set] at h
    simp only [if_true] at h
    split at h
    · exact .inl ⟨rfl, (Option.some.inj h).symm⟩
    · cases h
  · rw [List.getElem?_set_ne e] at h; exact .inr ⟨e, h⟩

theorem siftdown_heap (o : Ord lt) : ∀ {pos : Nat} {xs : List α}, pos < xs.length → Desc s pos → HA lt s pos xs → HB lt x pos xs → HC lt s pos xs → HF lt s (siftdown lt x s pos xs) := by
  intro pos
  induction pos using Nat.strongRecOn with
  | ind pos ih =>
    intro xs hp hd a b c
    have stop : (s < pos → ∀ p, xs[(pos - 1) / 2]? = some p → le lt p x) → HF lt s (xs.set pos x) := by
      intro hx i u v hi hs hu hv
      rcases set_at hu with ⟨e1, rfl⟩ | ⟨e1, hu⟩
      · subst e1
        rcases set_at hv with ⟨e2, rfl⟩ | ⟨e2, hv⟩
        · lia
        · exact hx (by lia) _ hv
      · rcases set_at hv with ⟨e2, hxv⟩ | ⟨e2, hv⟩
        · rw [hxv]; exact b i u hi e2.symm hu
        · exact a i u v hi (Ne.symm e1) (Ne.symm e2) hs hu hv
    rw [siftdown]
    split
    · rename_i hs
      have hdp := hd.par hs
      split
      · rename_i p hpar
        split
        · rename_i hlt
          have hq : (pos - 1) / 2 < pos := by lia
          refine ih _ hq (by simp; lia) hdp ?_ ?_ ?_
          · intro i u v hi n1 n2 hsi hu hv
            rcases set_at hu with ⟨e1, rfl⟩ | ⟨e1, hu⟩
            · subst e1; exact absurd rfl n2
            · rcases set_at hv with ⟨e2, hxv⟩ | ⟨e2, hv⟩
              · rw [hxv]; exact c hs i u _ hi e2.symm hu hpar
              · exact a i u v hi (Ne.symm e1) (Ne.symm e2) hsi hu hv
          · intro d u h0 hdp' hu
            rcases set_at hu with ⟨e1, rfl⟩ | ⟨e1, hu⟩
            · exact o.of_lt hlt
            · exact o.trans (o.of_lt hlt) (a d u p h0 (Ne.symm e1) (by lia) (by have := hdp.ge; lia) hu (by rw [hdp']; exact hpar))
          · intro hs2 d u v h0 hdp' hu hv
            have hdpp := (hdp.par hs2).ge
            rcases set_at hv with ⟨e2, rfl⟩ | ⟨e2, hv⟩
            · lia
            · have hvp : le lt v p := a _ p v (by lia) (by lia) (by lia) hdpp hpar hv
              rcases set_at hu with ⟨e1, rfl⟩ | ⟨e1, hu⟩
              · exact hvp
              · exact o.trans hvp (a d u p h0 (Ne.symm e1) (by lia) (by have := hdp.ge; lia) hu (by rw [hdp']; exact hpar))
        · rename_i hlt
          refine stop fun _ q hq => ?_
          rw [hpar] at hq; cases hq
          simpa using hlt
      · rename_i hpar
        refine stop fun _ q hq => ?_
        rw [hpar] at hq; cases hq
    · exact stop fun h => absurd h (by assumption)

theorem siftGo_heap (o : Ord lt) (n : Nat) : ∀ {pos : Nat} {xs : List α}, xs.length - pos ≤ n → pos < xs.length → Desc s pos → HA lt s pos xs → HC lt s pos xs →
    Desc s (siftGo lt xs pos).2 ∧ HA lt s (siftGo lt xs pos).2 (siftGo lt xs pos).1 ∧ ¬ 2 * (siftGo lt xs pos).2 + 1 < (siftGo lt xs pos).1.length := by
  induction n with
  | zero => intro pos xs h1 h2; lia
  | succ n ih =>
    intro pos xs h1 h2 hd a c
    by_cases hc : 2 * pos + 1 < xs.length
    · have b := child_bounds (lt := lt) hc
      have hg := List.getElem?_eq_getElem b.2.2
      rw [siftGo_step hc hg]
      have hmin : ∀ i u, 0 < i → (i - 1) / 2 = pos → xs[i]? = some u → le lt (xs[child lt xs pos]'b.2.2) u := by
        intro i u h0 hi hu
        have hlu := (List.getElem?_eq_some_iff.mp hu).1
        revert b hg
        unfold child
        split
        · rename_i p q hp hq
          split
          · rename_i hlt
            intro b hg
            rw [hp] at hg; rw [← Option.some.inj hg]
            by_cases e : i = 2 * pos + 1
            · subst e; rw [hp] at hu; cases hu; exact o.refl _
            · have : i = 2 * pos + 2 := by lia
              subst this; rw [hq] at hu; cases hu; exact o.of_lt hlt
          · rename_i hlt
            intro b hg
            rw [hq] at hg; rw [← Option.some.inj hg]
            by_cases e : i = 2 * pos + 1
            · subst e; rw [hp] at hu; cases hu; simpa using hlt
            · have : i = 2 * pos + 2 := by lia
              subst this; rw [hq] at hu; cases hu; exact o.refl _
        · rename_i hno
          intro b hg
          by_cases e : i = 2 * pos + 1
          · subst e; rw [hg] at hu; cases hu; exact o.refl _
          · have : i = 2 * pos + 2 := by lia
            subst this
            exact absurd hu (hno _ _ hg)
      have hsc : s < child lt xs pos := by have := hd.ge; lia
      have hpc : (child lt xs pos - 1) / 2 = pos := by lia
      refine ih (by simp; lia) (by simp; lia) ?_ ?_ ?_
      · have : child lt xs pos = 2 * pos + 1 ∨ child lt xs pos = 2 * pos + 2 := by lia
        rcases this with e | e <;> rw [e]
        · exact .l hd
        · exact .r hd
      · intro i u v hi n1 n2 hsi hu hv
        rcases set_at hu with ⟨e1, rfl⟩ | ⟨e1, hu⟩
        · subst e1
          rcases set_at hv with ⟨e2, rfl⟩ | ⟨e2, hv⟩
          · lia
          · exact c (by lia) (child lt xs pos) _ v (by lia) hpc hg hv
        · rcases set_at hv with ⟨e2, rfl⟩ | ⟨e2, hv⟩
          · exact hmin i u hi e2.symm hu
          · exact a i u v hi (Ne.symm e1) (Ne.symm e2) hsi hu hv
      · intro _ d u v h0 hdp hu hv
        rw [hpc] at hv
        rcases set_at hv with ⟨_, rfl⟩ | ⟨e2, _⟩
        · rcases set_at hu with ⟨e1, rfl⟩ | ⟨e1, hu⟩
          · exact o.refl _
          · exact a d u _ h0 (Ne.symm e1) (by lia) (by lia) hu (by rw [hdp]; exact hg)
        · exact absurd rfl e2
    · rw [siftGo_end hc]; exact ⟨hd, a, hc⟩
theorem siftup_heap (o : Ord lt) (h : pos < xs.length) (hh : HF lt (pos + 1) xs) : HF lt pos (siftup lt x pos xs) := by
  have p := siftGo_perm (lt := lt) (x := x) (xs.length - pos) (Nat.le_refl _) h
  have a := siftGo_heap o (xs.length - pos) (Nat.le_refl _) h Desc.refl (s := pos) (fun i u v h0 h1 h2 h3 hu hv => hh i u v h0 (by lia) hu hv) (fun h => absurd h (Nat.lt_irrefl _))
  unfold siftup
  have out : ∀ {c : Nat} {u : α}, 0 < c → (c - 1) / 2 = (siftGo lt xs pos).2 → ((siftGo lt xs pos).1.set (siftGo lt xs pos).2 x)[c]? = some u → False := by
    intro c u h0 hc hu
    have := (List.getElem?_eq_some_iff.mp hu).1
    rw [List.length_set] at this
    lia
  refine siftdown_heap o (by simpa using p.1) a.1 ?_ (fun c u h0 hc hu => (out h0 hc hu).elim) (fun _ c u v h0 hc hu _ => (out h0 hc hu).elim)
  intro i u v h0 h1 h2 h3 hu hv
  rw [List.getElem?_set_ne (Ne.symm h1)] at hu
  rw [List.getElem?_set_ne (Ne.symm h2)] at hv
  exact a.2.1 i u v h0 h1 h2 h3 hu hv
theorem hpush_heap (o : Ord lt) (h : IsHeap lt xs) : IsHeap lt (hpush lt xs x) := by
  have out : ∀ {c : Nat} {u : α}, 0 < c → (c - 1) / 2 = xs.length → (xs ++ [x])[c]? = some u → False := by
    intro c u h0 hc hu
    have := (List.getElem?_eq_some_iff.mp hu).1
    simp at this; lia
  have hd : ∀ p : Nat, Desc 0 p := by
    intro p
    induction p using Nat.strongRecOn with
    | ind p ih =>
      by_cases h0 : p = 0
      · subst h0; exact .refl
      · have := ih ((p - 1) / 2) (by lia)
        by_cases h2 : p % 2 = 1
        · have e : p = 2 * ((p - 1) / 2) + 1 := by lia
          rw [e]; exact .l this
        · have e : p = 2 * ((p - 1) / 2) + 2 := by lia
          rw [e]; exact .r this
  have := siftdown_heap (s := 0) (x := x) (xs := xs ++ [x]) (pos := xs.length) o (by simp) (hd _) (fun i u v h0 h1 h2 _ hu hv => ?_) (fun c u h0 hc hu => (out h0 hc hu).elim) (fun _ c u v h0 hc hu _ => (out h0 hc hu).elim)
  · intro i u v h0 hu hv; exact this i u v h0 (Nat.zero_le _) hu hv
  · have hl := (List.getElem?_eq_some_iff.mp hu).1
    simp at hl
    rw [List.getElem?_append_left (by lia)] at hu
    rw [List.getElem?_append_left (by lia)] at hv
    exact h i u v h0 hu hv
theorem hrepl_heap (o : Ord lt) (h : IsHeap lt (y :: r)) : IsHeap lt (hrepl lt (y :: r) x) := by
  have := siftup_heap (x := x) (pos := 0) (xs := (y :: r).set 0 x) o (by simp) (fun i u v h0 h1 hu hv => by
    rw [List.getElem?_set_ne (by lia)] at hu hv
    exact h i u v h0 hu hv)
  intro i u v h0 hu hv; exact this i u v h0 (Nat.zero_le _) hu hv
theorem hifyGo_heap (o : Ord lt) : ∀ {k : Nat} {xs : List α}, k ≤ xs.length → HF lt k xs → HF lt 0 (hifyGo lt k xs)
  | 0, _, _, h => h
  | k + 1, xs, hkl, h => by
    unfold hifyGo
    split
    · rename_i z hz
      have hk := (List.getElem?_eq_some_iff.mp hz).1
      refine hifyGo_heap o ?_ (siftup_heap o hk h)
      rw [(siftup_perm hk).length_eq, List.length_set]; lia
    · rename_i hz
      have hk : xs.length ≤ k := List.getElem?_eq_none_iff.mp hz
      lia
theorem hify_heap (o : Ord lt) : IsHeap lt (hify lt xs) := by
  have := hifyGo_heap (k := xs.length / 2) (xs := xs) o (by lia) (fun i u v h0 h1 hu hv => by
    have := (List.getElem?_eq_some_iff.mp hu).1
    lia)
  intro i u v h0 hu hv; exact this i u v h0 (Nat.zero_le _) hu hv
end
end Mine
namespace Mine
local macro_rules | `(tactic| walk_at "lk") => `(tactic| first | with_reducible exact upd_eq | (refine upd_ne (by rfl) ?_; walk_at "lk") | with_reducible assumption | rfl)
local macro_rules | `(tactic| walk_at "nm") => `(tactic| refine nmL (by with_reducible assumption) (by walk_at "lk") ?_)

/-! iterators of lists -/
abbrev isLI (o : Obj) (l : Addr) (i : Nat) : Prop := o.cls = .type "list_iterator" ∧ o.data = .fields #[.ref l, .int i 0]
section
variable {prog : Program} {w : World} {A : Around} {E : Value → Shared → Prop} {h : Heap} {gs : Array GenState} {dr : Drawn} {t : Nat} {os : OsState} {g : Heap} {L l I : Addr} {m : Str → Option Value} {rest : List (Addr × Obj)} {vs : List Value} {i : Nat} {ob : Obj} {v : Value}
theorem i_list {Q : Value → Shared → Prop} (F : Fr g L h m) (N : News g L h rest) (hl : h.IsList l vs.toArray)
    (q : ∀ I ob h', Fr g L h' m → News g L h' ((I, ob) :: rest) → isLI ob l 0 → (∀ p ∈ rest, p.1 ≠ I) → l ≠ I → Q (.ref I) ⟨h', gs, dr, t, os⟩) : wpAny (model prog w) A (pyIter (.ref l)) Q E ⟨h, gs, dr, t, os⟩ := by
  refine wpAny_pyIter_list (s := ⟨h, gs, dr, t, os⟩) hl ?_
  obtain ⟨a, b, c, -, -⟩ := n_obj (ob := { cls := .type "list_iterator", data := .fields #[.ref l, .int 0 0] }) F N rfl
  obtain ⟨o, ho, _⟩ := hl
  exact q _ _ _ a b ⟨rfl, rfl⟩ c (Nat.ne_of_lt (Heap.lt_size ho))
theorem x_list {Q : Option Value → Shared → Prop} (F : Fr g L h m) (N : News g L h ((I, ob) :: rest)) (ho : isLI ob l i) (hr : ∀ p ∈ rest, p.1 ≠ I) (hl : h.IsList l vs.toArray) (hx : vs[i]? = some v)
    (q : ∀ ob' h', Fr g L h' m → News g L h' ((I, ob') :: rest) → isLI ob' l (i + 1) → Q (some v) ⟨h', gs, dr, t, os⟩) : wpAny (model prog w) A (pyNext (.ref I)) Q E ⟨h, gs, dr, t, os⟩ :=
  wpAny_pyNext_list_item (s := ⟨h, gs, dr, t, os⟩) ⟨ob, (N _ (.head _)).1, ho.1, ho.2⟩ hl (by simpa using hx) fun h' hi hs => by
    obtain ⟨o', e1, e2, e3⟩ := hi
    obtain ⟨a, b⟩ := led_same F N hr hs e1
    exact q o' h' a b ⟨e2, e3⟩
theorem x_list0 {Q : Option Value → Shared → Prop} {j : Nat} (r : Room A j) (F : Fr g L h m) (N : News g L h ((I, ob) :: rest)) (ho : isLI ob l i) (hr : ∀ p ∈ rest, p.1 ≠ I) (hl : h.IsList l vs.toArray) (hx : vs[i]? = none)
    (q : ∀ h', Fr g L h' m → News g L h' rest → Q none ⟨h', gs, dr, t, os⟩) : wpAny (model prog w) A (pyNext (.ref I)) Q E ⟨h, gs, dr, t, os⟩ :=
  wpAny_pyNext_list_end (s := ⟨h, gs, dr, t, os⟩) r.handled ⟨ob, (N _ (.head _)).1, ho.1, ho.2⟩ hl (by simpa using hx) fun h' hs => by
    obtain ⟨a, b⟩ := led_ext F N hr hs
    exact q h' a b
/-- a deed's kind -/
theorem t_kind {value slice : Expr} {a : Addr} {d : Deed} {u : Tok} {Q : Value → Shared → Prop} (ha : DeedAt h a d) (q : ∀ tk, Q (.int d.kind tk) ⟨h, gs, dr, t, os⟩)
    (hs : subscripted slice false (.ref a) (.int 4 u) = operate [.ref a, .int 4 u] (getItem (.ref a) (.int 4 u)) := by with_unfolding_all rfl) :
    wpAny (model prog w) A (subscriptTail value slice (.ref a) (.int 4 u)) Q E ⟨h, gs, dr, t, os⟩ := by
  obtain ⟨vals, ht, hi⟩ := ha
  obtain ⟨t0, t1, t2, t3, t4, t5, t6, rfl⟩ := deed_vals hi
  exact item_tupleT (s := ⟨h, gs, dr, t, os⟩) ht (by decide) (by decide) (j := 4) rfl rfl (q t4) hs
end

/-! the last item -/
section
variable {prog : Program} {w : World} {A : Around} {E : Value → Shared → Prop} {h : Heap} {gs : Array GenState} {dr : Drawn} {t : Nat} {os : OsState} {g : Heap} {L l : Addr} {m : Str → Option Value} {rest : List (Addr × Obj)} {n : Nat}
theorem o_neg {a : Int} {u : Tok} {Q : Value → Shared → Prop} (q : Q (.int (-a) t) ⟨h, gs, dr, t + 1, os⟩) : wpAny (model prog w) A (unaryOp .USub (.int a u)) Q E ⟨h, gs, dr, t, os⟩ := neg_int q
theorem l_last {value slice : Expr} {vs : List Value} {v : Value} {u : Tok} {Q : Value → Shared → Prop} (hl : h.get? l = some (listOf (vs ++ [v]).toArray n)) (q : Q v ⟨h, gs, dr, t, os⟩)
    (hs : subscripted slice false (.ref l) (.int (-1) u) = operate [.ref l, .int (-1) u] (getItem (.ref l) (.int (-1) u)) := by with_unfolding_all rfl) :
    wpAny (model prog w) A (subscriptTail value slice (.ref l) (.int (-1) u)) Q E ⟨h, gs, dr, t, os⟩ :=
  have hL : h.IsList l (vs ++ [v]).toArray := ⟨_, hl, rfl, _, rfl⟩
  tail_any hL.typeIs slot_list_getitem.lookup (wpAny_getItem_list_neg (s := ⟨h, gs, dr, t, os⟩) hL (by decide) (by simp; lia) (by decide) (by
    have : ((-1 : Int) + ((vs ++ [v]).toArray.size : Nat)).toNat = vs.length := by simp only [List.size_toArray, List.length_append, List.length_singleton]; lia
    rw [this]; simp) q) hs
theorem l_setLast {vs : List Value} {v v' : Value} {u : Tok} {Q : Unit → Shared → Prop} (F : Fr g L h m) (N : News g L h ((l, listOf (vs ++ [v]).toArray n) :: rest)) (hr : ∀ p ∈ rest, p.1 ≠ l)
    (q : ∀ h', Fr g L h' m → News g L h' ((l, listOf (vs ++ [v']).toArray n) :: rest) → Q () ⟨h', gs, dr, t, os⟩) : wpAny (model prog w) A (setItem (.ref l) (.int (-1) u) v') Q E ⟨h, gs, dr, t, os⟩ := by
  have z := N _ (.head _)
  refine ki_setBack (s := ⟨h, gs, dr, t, os⟩) z.1 (by decide) (by simp; lia) (by decide) (q _ (F.change (Heap.SameBut.update ..) z.2.1 z.2.2) (ki_turn (pre := []) _ N (fun _ h => nomatch h) hr ?_ ?_))
  · have : ((-1 : Int) + ((vs ++ [v]).toArray.size : Nat)).toNat = vs.length := by simp only [List.size_toArray, List.length_append, List.length_singleton]; lia
    rw [this]
    apply Array.toList_inj.mp; simp
  · simp
end

/-! tops -/
/-- the least of the first so many -/
def topAt (ds : List Deed) (j : Nat) : Deed := match ds.take j with
  | [] => default
  | d :: r => minFrom dlt d r
theorem minFrom_spec {α : Type} {lt : α → α → Bool} (o : Ord lt) : ∀ (r : List α) (b : α), minFrom lt b r ∈ b :: r ∧ ∀ z ∈ b :: r, le lt (minFrom lt b r) z
  | [], b => ⟨.head _, fun z hz => by rw [List.mem_singleton.mp hz]; exact o.refl _⟩
  | x :: r, b => by
    unfold minFrom
    obtain ⟨h1, h2⟩ := minFrom_spec o r (if lt x b then x else b)
    by_cases hlt : lt x b = true
    · simp only [hlt, if_true] at h1 h2 ⊢
      refine ⟨?_, fun z hz => ?_⟩
      · rcases List.mem_cons.mp h1 with h | h
        · rw [h]; exact .tail _ (.head _)
        · exact .tail _ (.tail _ h)
      · rcases List.mem_cons.mp hz with rfl | hz
        · exact o.trans (h2 x (.head _)) (o.of_lt hlt)
        · exact h2 z hz
    · have hf : lt x b = false := by simpa using hlt
      simp only [hf, Bool.false_eq_true, if_false] at h1 h2 ⊢
      refine ⟨?_, fun z hz => ?_⟩
      · rcases List.mem_cons.mp h1 with h | h
        · rw [h]; exact .head _
        · exact .tail _ (.tail _ h)
      · rcases List.mem_cons.mp hz with rfl | hz
        · exact h2 _ (.head _)
        · rcases List.mem_cons.mp hz with rfl | hz
          · exact o.trans (h2 b (.head _)) hf
          · exact h2 z (.tail _ hz)
theorem top_eq {ds l : List Deed} {j : Nat} {d : Deed} (hd : d ∈ l) (hl : ∀ z ∈ l, le dlt d z) (p : l.Perm (ds.take j)) : d = topAt ds j := by
  unfold topAt
  have hm : d ∈ ds.take j := p.mem_iff.mp hd
  split
  · rename_i e; rw [e] at hm; cases hm
  · rename_i x r e
    obtain ⟨h1, h2⟩ := minFrom_spec dlt_ord r x
    rw [← e] at h1 h2
    exact dlt_total (h2 d hm) (hl _ (p.mem_iff.mpr h1))

/-! the ledger of the course -/
structure Led4 (l ll cl tl : Addr) (bks : List (Addr × Obj)) : Prop where
  h1 : l ≠ ll
  h2 : l ≠ cl
  h3 : l ≠ tl
  h4 : ll ≠ cl
  h5 : ll ≠ tl
  h6 : cl ≠ tl
  hb : ∀ q ∈ bks, q.1 ≠ l ∧ q.1 ≠ ll ∧ q.1 ≠ cl ∧ q.1 ≠ tl
section
variable {l ll cl tl : Addr} {bks : List (Addr × Obj)} {o1 o2 o3 : Obj}
theorem Led4.nl (x : Led4 l ll cl tl bks) : ∀ p ∈ (ll, o1) :: (cl, o2) :: (tl, o3) :: bks, p.1 ≠ l := by
  simp only [List.forall_mem_cons]
  exact ⟨x.h1.symm, x.h2.symm, x.h3.symm, fun p hp => (x.hb p hp).1⟩
theorem Led4.nll (x : Led4 l ll cl tl bks) : ∀ p ∈ (l, o1) :: (cl, o2) :: (tl, o3) :: bks, p.1 ≠ ll := by
  simp only [List.forall_mem_cons]
  exact ⟨x.h1, x.h4.symm, x.h5.symm, fun p hp => (x.hb p hp).2.1⟩
theorem Led4.ncl (x : Led4 l ll cl tl bks) : ∀ p ∈ (l, o1) :: (ll, o2) :: (tl, o3) :: bks, p.1 ≠ cl := by
  simp only [List.forall_mem_cons]
  exact ⟨x.h2, x.h4, x.h6.symm, fun p hp => (x.hb p hp).2.2.1⟩
theorem Led4.new {b : Addr} {o : Obj} {o4 : Obj} (x : Led4 l ll cl tl bks) (hb : ∀ p ∈ (l, o1) :: (ll, o2) :: (cl, o3) :: (tl, o4) :: bks, p.1 ≠ b) : Led4 l ll cl tl ((b, o) :: bks) := by
  refine ⟨x.h1, x.h2, x.h3, x.h4, x.h5, x.h6, fun q hq => ?_⟩
  rcases List.mem_cons.mp hq with rfl | hq
  · exact ⟨(hb _ (.head _)).symm, (hb _ (.tail _ (.head _))).symm, (hb _ (.tail _ (.tail _ (.head _)))).symm, (hb _ (.tail _ (.tail _ (.tail _ (.head _))))).symm⟩
  · exact x.hb q hq
end
/-- a while whose test may come out by several roads -/
theorem s_whileK {prog : Program} {w : World} {A : Around} {E : Value → Shared → Prop} {s : Shared} {env : Env} {rest : List Stmt} {Q : Flow → Shared → Prop} {test : Expr} {body : List Stmt} {pos : Pos} (I B : Nat → Shared → Prop) (J : Shared → Prop) (n : Nat) (h0 : I n s)
    (ht : ∀ n s, I n s → wpAny (model prog w) A (isTrue test env (eval test env)) (fun b s₂ => if b then B n s₂ else J s₂) (fun _ _ => False) s)
    (turn : ∀ n s, B n s → wpAny (model prog w) A (execs body env) (Turn I J Q n) (fun _ _ => False) s)
    (done : ∀ s, J s → wpAny (model prog w) A (execs rest env) Q E s) : wpAny (model prog w) A (execs (.While test body [] pos :: rest) env) Q E s := by
  refine s_whileJ I J n h0 (fun n s hI => wpAny_mono (ht n s hI) (fun b s₂ h₂ => ?_) fun _ _ e => e) done
  cases b with
  | false => simpa using h₂
  | true => simpa using turn n s₂ (by simpa using h₂)

/-- what holds between the turns of the course -/
inductive CInv (gs : Array GenState) (dr : Drawn) (os : OsState) (g : Heap) (L l ll cl tl D : Addr) (way : Int) (tw : Tok) (tps : List AD) (all : List Deed) (ne : Prop) (nn : Nat) (s' : Shared) : Prop
  | mk (h : Heap) (m : Str → Option Value) (tk : Nat) (ps : List AD) (lt : List AD) (co : List AD) (bks : List (Addr × Obj)) (n1 : Nat) (n2 : Nat) (n3 : Nat) (n4 : Nat) : (s' = ⟨h, gs, dr, tk, os⟩) → (Fr g L h m) → (News g L h ((l, listOf (refs ps).toArray n1) :: (ll, listOf (refs lt).toArray n2) :: (cl, listOf (refs co).toArray n3) :: (tl, listOf (refs tps).toArray n4) :: bks)) → (Led4 l ll cl tl bks) → (m (Str.ofString "heap") = some (.ref l)) → (m (Str.ofString "tops") = some (.ref tl)) → (m (Str.ofString "way") = some (.int way tw)) → (m (Str.ofString "deeds") = some (.ref D)) → (m (Str.ofString "later") = some (.ref ll)) → (m (Str.ofString "course") = some (.ref cl)) → (IsHeap alt ps) → (lt.length ≤ 1) → ((way ≠ 2 → lt = [])) → ((∀ q ∈ ps ++ lt, DIn g bks q)) → ((∀ q ∈ co, DIn g bks q)) → (P2 all ((ps ++ lt).map (·.2)) (co.map (·.2))) → (nn = P2.m ((ps ++ lt).map (·.2))) → ((ps ++ lt = [] → ne)) → CInv gs dr os g L l ll cl tl D way tw tps all ne nn s'
/-- a turn half done: the deed is taken, its taking back is in (way i), the rest is K -/
inductive CMid (gs : Array GenState) (dr : Drawn) (os : OsState) (g : Heap) (L l ll cl tl D : Addr) (way : Int) (tw : Tok) (tps : List AD) (all : List Deed) (H : List Deed) (co : List AD) (j : Nat) (inn : Deed → List Deed) (s' : Shared) : Prop
  | mk (h : Heap) (m : Str → Option Value) (tk : Nat) (ps : List AD) (lt : List AD) (bks : List (Addr × Obj)) (n1 : Nat) (n2 : Nat) (n3 : Nat) (n4 : Nat) (d : AD) (K : List Deed) : (s' = ⟨h, gs, dr, tk, os⟩) → (Fr g L h m) → (News g L h ((l, listOf (refs ps).toArray n1) :: (ll, listOf (refs lt).toArray n2) :: (cl, listOf (refs co).toArray n3) :: (tl, listOf (refs tps).toArray n4) :: bks)) → (Led4 l ll cl tl bks) → (m (Str.ofString "heap") = some (.ref l)) → (m (Str.ofString "tops") = some (.ref tl)) → (m (Str.ofString "way") = some (.int way tw)) → (m (Str.ofString "deeds") = some (.ref D)) → (m (Str.ofString "later") = some (.ref ll)) → (m (Str.ofString "course") = some (.ref cl)) → (m (Str.ofString "deed") = some (.ref d.1)) → (IsHeap alt ps) → (lt.length ≤ j) → ((way ≠ 2 → lt = [])) → ((∀ q ∈ ps ++ lt, DIn g bks q)) → ((∀ q ∈ co, DIn g bks q)) → (DIn g bks d) → (H.Perm (d.2 :: K)) → ((∀ x ∈ K, le dlt d.2 x)) → (((ps ++ lt).map (·.2)).Perm (K ++ inn d.2)) → CMid gs dr os g L l ll cl tl D way tw tps all H co j inn s'
/-- an if whose test may come out by several roads -/
theorem s_ifK {M : Model} {A : Around} {E : Value → Shared → Prop} {s : Shared} {env : Env} {rest : List Stmt} {Q : Flow → Shared → Prop} {test : Expr} {body orelse : List Stmt} {pos : Pos} (B1 B2 J : Shared → Prop)
    (ht : wpAny M A (isTrue test env (eval test env)) (fun b s₂ => if b then B1 s₂ else B2 s₂) E s)
    (h1 : ∀ s, B1 s → wpAny M A (execs body env) (fun f s' => f = .next ∧ J s') E s) (h2 : ∀ s, B2 s → wpAny M A (execs orelse env) (fun f s' => f = .next ∧ J s') E s)
    (done : ∀ s, J s → wpAny M A (execs rest env) Q E s) : wpAny M A (execs (.If test body orelse pos :: rest) env) Q E s := by
  refine s_ifJ J (wpAny_mono ht (fun b s₂ h => ?_) fun _ _ e => e) done
  cases b with
  | false => simpa using h2 s₂ (by simpa using h)
  | true => simpa using h1 s₂ (by simpa using h)
theorem IsHeap.init {α : Type} {lt : α → α → Bool} {c : List α} {z : α} (h : IsHeap lt (c ++ [z])) : IsHeap lt c := by
  intro i a b hi ha hb
  have l1 := (List.getElem?_eq_some_iff.mp ha).1
  have l2 := (List.getElem?_eq_some_iff.mp hb).1
  exact h i a b hi (by rw [List.getElem?_append_left l1]; exact ha) (by rw [List.getElem?_append_left l2]; exact hb)
theorem heap_min {ps : List AD} {y : AD} (h : IsHeap alt ps) (hy : ps[0]? = some y) : ∀ q ∈ ps, le alt y q := by
  cases ps with
  | nil => simp at hy
  | cons a c =>
    simp at hy; subst hy
    intro q hq
    rcases List.mem_cons.mp hq with rfl | hq
    · exact alt_ord.refl _
    · exact IsHeap.root alt_ord h q hq
theorem DeedAt.turn {fs : List Addr} {g g' : Heap} {a : Addr} {d : Deed} (x : DeedAt g a d) (T : KtsTurn fs g g') (D : KtsDicts fs g) : DeedAt g' a d := by
  obtain ⟨vals, ⟨o, ho, hc, n, hd⟩, hi⟩ := x
  refine ⟨vals, ⟨o, T.other a o ho fun hm => ?_, hc, n, hd⟩, hi⟩
  obtain ⟨o', es, k, ho', hd'⟩ := D a hm
  rw [ho] at ho'; cases ho'
  rw [hd] at hd'; cases hd'
theorem DIn.turn {fs : List Addr} {g g' : Heap} {bks led : List (Addr × Obj)} {p : AD} (x : DIn g bks p) (T : KtsTurn fs g g') (D : KtsDicts fs g) (hs : ∀ q ∈ bks, q ∈ led) : DIn g' led p :=
  x.imp (fun y => y.turn T D) fun ⟨v, a, b⟩ => ⟨v, hs _ a, b⟩
/-- an item of a list that is only known as one -/
theorem l_getI {prog : Program} {w : World} {A : Around} {E : Value → Shared → Prop} {h : Heap} {gs : Array GenState} {dr : Drawn} {t : Nat} {os : OsState} {value slice : Expr} {l : Addr} {vs : List Value} {k : Int} {u : Tok} {v : Value} {Q : Value → Shared → Prop}
    (hL : h.IsList l vs.toArray) (h0 : 0 ≤ k) (hhi : k < 2 ^ 63) (hx : vs[k.toNat]? = some v) (q : Q v ⟨h, gs, dr, t, os⟩)
    (hs : subscripted slice false (.ref l) (.int k u) = operate [.ref l, .int k u] (getItem (.ref l) (.int k u)) := by with_unfolding_all rfl) :
    wpAny (model prog w) A (subscriptTail value slice (.ref l) (.int k u)) Q E ⟨h, gs, dr, t, os⟩ :=
  tail_any hL.typeIs slot_list_getitem.lookup (wpAny_getItem_list (s := ⟨h, gs, dr, t, os⟩) hL h0 hhi (by simpa using hx) q) hs
section
variable {A : Around} {base g h : Heap} {outer : List Env} {L a : Addr} {m : Str → Option Value} {led : List (Addr × Obj)} {name : Str} {scope : Scope} {cd : Value}
theorem under_keep (F : Fr g L h m) (N : News g L h led) : Keep g (hideAll h (led.map (·.1))) := fun b o e => hideAll_get _ (F.keep b o e) fun q => by
  obtain ⟨p, hp, rfl⟩ := List.mem_map.mp q
  rw [(N p hp).2.2] at e; cases e
theorem under_fr (F : Fr g L h m) (N : News g L h led) : Fr g L (hideAll h (led.map (·.1))) m := by
  obtain ⟨oL, es, ep, hL, r⟩ := F.ns
  exact ⟨⟨oL, es, ep, hideAll_get _ hL (fun q => by obtain ⟨p, hp, e⟩ := List.mem_map.mp q; exact (N p hp).2.1 e), r⟩, under_keep F N, F.above⟩
theorem under_all (KB : Below A base outer g) (F : Fr g L h m) (N : News g L h led) (hk : scope.kind = .function) :
    Below (A.deeper (envOf name scope L a cd)) base (envOf name scope L a cd :: outer) (hideAll h (led.map (·.1))) := by
  obtain ⟨_, _, _, _, _, _, _, _, K⟩ := kts_enter (s := ⟨h, #[], {}, 0, {}⟩) (A := A.deeper (envOf name scope L a cd)) (cn := name) (cs := scope) (a := a) (ccd := cd) KB F N (Around.frames_deeper KB.stack) hk
  exact K
end
end Mine
namespace Mine
local macro_rules | `(tactic| walk_at "lk") => `(tactic| first | with_reducible exact upd_eq | (refine upd_ne (by rfl) ?_; walk_at "lk") | with_reducible assumption | rfl)
local macro_rules | `(tactic| walk_at "nm") => `(tactic| refine nmL (by with_reducible assumption) (by walk_at "lk") ?_)
local macro_rules | `(tactic| walk_at "mem") => `(tactic| first | exact List.Mem.head _ | (refine List.Mem.tail _ ?_; walk_at "mem"))
local macro_rules | `(tactic| walk_at "sub") => `(tactic| first | with_reducible exact subR | with_reducible exact subN | (refine subC (by walk_at "mem") ?_; walk_at "sub") | (refine subT ?_; walk_at "sub"))

theorem wpAny_post {α : Type} {M : Model} {A : Around} {E : Value → Shared → Prop} {s : Shared} {c : Sem α} {Q : α → Shared → Prop} (h : ∀ P : α → Shared → Prop, (∀ f s, Q f s → P f s) → wpAny M A c P E s) : wpAny M A c Q E s := h Q fun _ _ x => x
theorem sub_ie : isSubtype (.type "IndexError") (.type "IndexError") = pure true := by rw [isSubtype_type]; kernel_rfl
section
variable {α : Type} {a b c d x : α} {r : List α}
theorem rot5 : ∀ q ∈ a :: b :: c :: d :: x :: r, q ∈ x :: a :: b :: c :: d :: r := by
  walk_at "sub"
theorem sw2 : ∀ q ∈ b :: a :: r, q ∈ a :: b :: r := by
  walk_at "sub"
theorem rot3 : ∀ q ∈ c :: a :: b :: r, q ∈ a :: b :: c :: r := by
  walk_at "sub"
theorem rot3' : ∀ q ∈ a :: b :: c :: r, q ∈ c :: a :: b :: r := by
  walk_at "sub"
end
theorem ne1 {l a : Addr} {o1 : Obj} (h1 : a ≠ l) : ∀ p ∈ [(a, o1)], p.1 ≠ l := fun p hp => by rw [List.mem_singleton.mp hp]; exact h1
theorem neC {l a : Addr} {o1 : Obj} {r : List (Addr × Obj)} (h1 : a ≠ l) (h : ∀ p ∈ r, p.1 ≠ l) : ∀ p ∈ (a, o1) :: r, p.1 ≠ l := List.forall_mem_cons.mpr ⟨h1, h⟩
section
variable {prog : Program} {w : World} {A : Around} {E : Value → Shared → Prop} {h : Heap} {gs : Array GenState} {dr : Drawn} {t : Nat} {os : OsState} {base g : Heap} {outer : List Env} {D : Addr} {n : Nat} {ds : List AD} {Q : Value → Shared → Prop} {k : Nat}
  {p : Program} {loose : List Str} {mean : ExcName → Option Value} {mg mb : Str → Option Value}

inductive C3_I1 (gs : Array GenState) (dr : Drawn) (os : OsState) (g : Heap) (L : Addr) (l : Addr) (tl : Addr) (ds : List AD) (way : Int) (tw : Tok) (D : Addr) (it : Value) (nn : Nat) (s' : Shared) : Prop
  | mk (h : Heap) (m : Str → Option Value) (tk : Nat) (I : Addr) (ob : Obj) (S : Addr) (ps : List AD) (tps : List AD) (i : Nat) (n1 : Nat) (n2 : Nat) : (s' = ⟨h, gs, dr, tk, os⟩) → (it = .ref I) → (Fr g L h m) → (News g L h [(I, ob), (l, listOf (refs ps).toArray n1), (tl, listOf (refs tps).toArray n2), (S, listOf (refs (ds.drop (ds.length / 2))).toArray 0)]) → (isLI ob S i) → ((l ≠ I ∧ tl ≠ I ∧ S ≠ I ∧ S ≠ l ∧ S ≠ tl)) → (m (Str.ofString "heap") = some (.ref l)) → (m (Str.ofString "tops") = some (.ref tl)) → (m (Str.ofString "way") = some (.int way tw)) → (m (Str.ofString "deeds") = some (.ref D)) → (nn + i = ds.length - ds.length / 2) → (IsHeap alt ps) → (ps.Perm (ds.take (ds.length / 2 + i))) → ((∀ q ∈ tps, q ∈ ds)) → (tps.map (·.2) = (List.range i).map (fun j => topAt (ds.map (·.2)) (ds.length / 2 + j))) → C3_I1 gs dr os g L l tl ds way tw D it nn s'
inductive C3_I2 (gs : Array GenState) (dr : Drawn) (os : OsState) (g : Heap) (L : Addr) (l : Addr) (tl : Addr) (way : Int) (tw : Tok) (D : Addr) (ds : List AD) (s' : Shared) : Prop
  | mk (h : Heap) (m : Str → Option Value) (tk : Nat) (ps : List AD) (tps : List AD) (n1 : Nat) (n2 : Nat) : (s' = ⟨h, gs, dr, tk, os⟩) → (Fr g L h m) → (News g L h [(l, listOf (refs ps).toArray n1), (tl, listOf (refs tps).toArray n2)]) → (m (Str.ofString "heap") = some (.ref l)) → (m (Str.ofString "tops") = some (.ref tl)) → (m (Str.ofString "way") = some (.int way tw)) → (m (Str.ofString "deeds") = some (.ref D)) → (IsHeap alt ps) → (ps.Perm ds) → ((∀ q ∈ tps, q ∈ ds)) → (tps.map (·.2) = (List.range (ds.length - ds.length / 2)).map (fun j => topAt (ds.map (·.2)) (ds.length / 2 + j))) → C3_I2 gs dr os g L l tl way tw D ds s'
inductive C3_I3 (gs : Array GenState) (dr : Drawn) (os : OsState) (g : Heap) (L : Addr) (l : Addr) (ll : Addr) (cl : Addr) (tl : Addr) (tps : List AD) (way : Int) (tw : Tok) (D : Addr) (ds : List AD) (s' : Shared) : Prop
  | mk (h : Heap) (m : Str → Option Value) (tk : Nat) (co : List AD) (bks : List (Addr × Obj)) (n1 : Nat) (n2 : Nat) (n3 : Nat) (n4 : Nat) : (s' = ⟨h, gs, dr, tk, os⟩) → (Fr g L h m) → (News g L h ((l, listOf (refs []).toArray n1) :: (ll, listOf (refs []).toArray n2) :: (cl, listOf (refs co).toArray n3) :: (tl, listOf (refs tps).toArray n4) :: bks)) → (Led4 l ll cl tl bks) → (m (Str.ofString "heap") = some (.ref l)) → (m (Str.ofString "tops") = some (.ref tl)) → (m (Str.ofString "way") = some (.int way tw)) → (m (Str.ofString "deeds") = some (.ref D)) → (m (Str.ofString "course") = some (.ref cl)) → ((∀ q ∈ co, DIn g bks q)) → (P2 (ds.map (·.2) ++ backsOf (ds.map (·.2))) [] (co.map (·.2))) → C3_I3 gs dr os g L l ll cl tl tps way tw D ds s'
theorem course_call {way : Int} {tw : Tok} (hway : way = 0 ∨ way = 1 ∨ way = 2) (KB : Below A base outer g) (XB : (KK w).In base) (TB : Top p loose mean mg mb base) (DD : KtsDicts (outer.filterMap (·.frame)) g)
    (hk : Keep g h) (hsz : g.objs.size ≤ h.objs.size) (hD : g.IsList D (refs ds).toArray) (hds : DeedsAt g ds) (hlen : 5 ≤ ds.length) (hlen2 : ds.length ≤ 13) (r : Room A (k + 5))
    (hgood : ∀ x ∈ ds.map (·.2), x.kind = 2 → 0 ≤ x.span ∧ x.stage = 0)
    (hQ : ∀ g' h' tk T tl cl tps co led ts n1 n2, KtsTurn (outer.filterMap (·.frame)) g g' → Keep g' h' → h.objs.size ≤ h'.objs.size →
      (∀ q ∈ led, h'.get? q.1 = some q.2 ∧ g'.get? q.1 = none) → (T, tupOf [.ref tl, .ref cl]) ∈ led → (tl, listOf (refs tps).toArray n1) ∈ led → (cl, listOf (refs co ++ [Value.str (Str.ofString "none left") ts]).toArray n2) ∈ led →
      (∀ q ∈ tps, DIn g' led q) → (∀ q ∈ co, DIn g' led q) → tps.map (·.2) = (List.range (ds.length - ds.length / 2)).map (fun i => topAt (ds.map (·.2)) (ds.length / 2 + i)) →
      (co.map (·.2)).Perm (ds.map (·.2) ++ backsOf (ds.map (·.2))) → Sorted (co.map (·.2)) → Q (.ref T) ⟨h', gs, dr, tk, os⟩) :
    wpAny (model prog w) A (call (.ref 138) [.ref D, .int way tw]) Q E ⟨h, gs, dr, t, os⟩ := by
  have G : Gd w g := ⟨XB.keeps KB.stays, _, _, _, _, (topRead_of TB).keeps KB.stays⟩
  refine callr G hk hsz r (f := 138) (binds := [(Str.ofString "deeds", .ref D), (Str.ofString "way", .int way tw)]) rfl rfl rfl (locs rfl) fun L h₁ A' tk hL hA' R F hk₁ => ?_
  have N : News g L h₁ [] := News.nil
  have hDl : ∀ {h m}, Fr g L h m → h.IsList D (refs ds).toArray := fun F => let ⟨o, ho, x⟩ := hD; ⟨o, F.keep _ _ ho, x⟩
  have hDIn : ∀ p ∈ ds, DIn g [] p := fun p hp => .inl (hds p hp)
  -- heap = deeds[:len(deeds) // 2]
  refine s_asg (Subscript_ ?_)
  walk_at "nm"
  refine wpAny_Slice (evalPart_none_step (evalPart_some_step (wpAny_BinOp (Call_ (nmB F G rfl boot_len (by decide) (c_blt (wpAny_items_cons ?_)))))))
  walk_at "nm"
  obtain ⟨oD, hoD, hcD, nD, hdD⟩ := hDl F
  refine wpAny_items_nil (Calls.call_len_list (s := ⟨_, _, _, _, _⟩) (hDl F) (by simp; lia) ?_)
  refine e_int (o_divE (c := (ds.length / 2 : Nat)) (by decide) (PyProof.noPylong_small (by decide)) ?_ (evalPart_none_step ?_))
  · rw [Int.fdiv_eq_ediv_of_nonneg _ (by decide)]; simp
  refine l_slice F N (hDl F) .none (.int _ _) (pick_to _ _ (by simp; lia)) (by simp; lia) fun l h₂ F N _ => ?_
  have e1 : (refs ds).take (ds.length / 2) = refs (ds.take (ds.length / 2)) := by simp [List.map_take]
  rw [e1] at N
  refine sto F N fun h₂ F N => ?_
  -- heapify(heap)
  refine s_expr (Call_ (nmG F G (v := .ref 49) rfl (c_def rfl (wpAny_items_cons ?_))))
  walk_at "nm"
  refine wpAny_items_nil ⟨G.K.keeps F.keep, ?_⟩
  refine c_hify (k := 0) (bks := []) G F N (by simp) (by simp) (fun p hp => hDIn p (List.mem_of_mem_take hp)) (R.less (by lia)) (by simp; lia) fun h₃ tk n' F N => ?_
  -- tops = []
  refine s_asg (List_ (wpAny_items_nil (n_list F N (by simp) fun tl h₃ F N htl _ _ => ?_)))
  refine sto F N fun h₃ F N => ?_
  -- for deed in deeds[len(deeds) // 2:]
  have hl0 : tl ≠ l := fun e => htl _ (.head _) e.symm
  refine s_forJ (C3_I1 gs dr os g L l tl ds way tw D)
    (C3_I2 gs dr os g L l tl way tw D ds) ?iter ?turn ?done
  case iter =>
    refine Subscript_ ?_
    walk_at "nm"
    refine wpAny_Slice (evalPart_some_step (wpAny_BinOp (Call_ (nmB F G rfl boot_len (by decide) (c_blt (wpAny_items_cons ?_))))))
    walk_at "nm"
    refine wpAny_items_nil (Calls.call_len_list (s := ⟨_, _, _, _, _⟩) (hDl F) (by simp; lia) ?_)
    refine e_int (o_divE (c := (ds.length / 2 : Nat)) (by decide) (PyProof.noPylong_small (by decide)) ?_ (evalPart_none_step (evalPart_none_step ?_)))
    · rw [Int.fdiv_eq_ediv_of_nonneg _ (by decide)]; simp
    refine l_slice F N (hDl F) (.int _ _) .none (pick_from' _ _ (by simp; lia)) (by simp; lia) fun S h₄ F N hS => ?_
    have e2 : (refs ds).drop (ds.length / 2) = refs (ds.drop (ds.length / 2)) := by simp [List.map_drop]
    rw [e2] at N
    refine i_list F N ⟨_, (N _ (.head _)).1, rfl, _, rfl⟩ fun I ob h₅ F N ho hI hSI => ⟨⟨ds.length - ds.length / 2, _, _, _, I, ob, S, hify alt (ds.take (ds.length / 2)), [], 0, n', 0, rfl, rfl, F, news_perm N (by walk_at "sub"), ho,
      ⟨hI _ (.tail _ (.tail _ (.head _))), hI _ (.tail _ (.head _)), hSI, fun e => hS _ (.tail _ (.head _)) e.symm, fun e => hS _ (.head _) e.symm⟩, by walk_at "lk", by walk_at "lk", by walk_at "lk", by walk_at "lk", by lia, hify_heap alt_ord, hify_perm, by simp, by simp⟩, fun v => rfl⟩
  case turn =>
    rintro it nn s' ⟨h, m, tk, I, ob, S, ps, tps, i, n1, n2, rfl, rfl, F, N, ho, ⟨a1, a2, a3, a4, a5⟩, m1, m2, m3, m4, hi, hhp, hpm, htp, hte⟩
    have hr : ∀ p ∈ [(l, listOf (refs ps).toArray n1), (tl, listOf (refs tps).toArray n2), (S, listOf (refs (ds.drop (ds.length / 2))).toArray 0)], p.1 ≠ I := neC a1 (neC a2 (ne1 a3))
    have hSl : h.IsList S (refs (ds.drop (ds.length / 2))).toArray := ⟨_, (N _ (.tail _ (.tail _ (.tail _ (.head _))))).1, rfl, _, rfl⟩
    cases nn with
    | zero =>
      refine x_list0 R F N ho hr hSl (by simp; lia) fun h' F N => ?_
      have hi' : i = ds.length - ds.length / 2 := by lia
      subst hi'
      refine ⟨_, _, _, ps, tps, n1, n2, rfl, F, news_perm N (by walk_at "sub"), m1, m2, m3, m4, hhp, ?_, htp, hte⟩
      rwa [show ds.length / 2 + (ds.length - ds.length / 2) = ds.length by lia, List.take_length] at hpm
    | succ nn =>
      have hix : ds.length / 2 + i < ds.length := by lia
      obtain ⟨x, hx⟩ : ∃ x, ds[ds.length / 2 + i]? = some x := ⟨_, List.getElem?_eq_getElem hix⟩
      have hxds : x ∈ ds := List.mem_of_getElem? hx
      have htake : ds.take (ds.length / 2 + (i + 1)) = ds.take (ds.length / 2 + i) ++ [x] := by
        rw [show ds.length / 2 + (i + 1) = ds.length / 2 + i + 1 by lia, List.take_add_one, hx]; rfl
      have hpds : ∀ q ∈ ps, q ∈ ds := fun q hq => List.mem_of_mem_take (hpm.mem_iff.mp hq)
      have hpl : ps.length = ds.length / 2 + i := by rw [hpm.length_eq, List.length_take]; lia
      refine x_list F N ho hr hSl (v := .ref x.1) (by simp [hx]) fun ob' h' F N ho' => ?_
      refine wpAny_assign_Name (sto F N fun h₆ F N => ?_)
      obtain ⟨y, c, rfl⟩ : ∃ y c, ps = y :: c := by
        cases ps with
        | nil => simp at hpl; lia
        | cons y c => exact ⟨y, c, rfl⟩
      have hroot := IsHeap.root alt_ord hhp
      have htop : ∀ z : AD, z ∈ y :: c → (∀ q ∈ y :: c, le alt z q) → z.2 = topAt (ds.map (·.2)) (ds.length / 2 + i) := by
        intro z hz hle
        refine top_eq (l := (y :: c).map (·.2)) (List.mem_map_of_mem hz) (fun q hq => ?_) (by rw [← List.map_take]; exact hpm.map _)
        obtain ⟨q', hq', rfl⟩ := List.mem_map.mp hq
        exact hle q' hq'
      have hmin := minFrom_spec alt_ord c y
      have hmtop := htop _ hmin.1 hmin.2
      -- tops.append(min(heap))
      refine s_expr (MethodCall_ ?_)
      walk_at "nm"
      refine l_meth (N _ (.tail _ (.tail _ (.head _)))).1 PySem.F.slot_list_append PySem.F.type_list_append (c_blt (wpAny_items_cons (Call_ (nmB F G rfl boot_min (by decide) (c_blt (wpAny_items_cons ?_))))))
      walk_at "nm"
      refine wpAny_items_nil (c_min (bks := []) (ps := y :: c) F N (.tail _ (.head _)) (by simp) (fun p hp => hDIn p (hpds p hp)) R rfl fun h₇ tk F N => wpAny_items_nil ?_)
      have N := news_perm (rest' := [(tl, listOf (refs tps).toArray n2), (I, ob'), (l, listOf (refs (y :: c)).toArray n1), (S, listOf (refs (ds.drop (ds.length / 2))).toArray 0)]) N (by simp)
      have htpl : tps.length = i := by have := congrArg List.length hte; simpa using this
      refine l_app F N (neC a2.symm (neC hl0.symm (ne1 a5))) (by simp; lia) fun h₈ F N => ?_
      have e3 : refs tps ++ [Value.ref (minFrom alt y c).1] = refs (tps ++ [minFrom alt y c]) := by simp
      rw [e3] at N
      have htps : ∀ z : AD, z ∈ y :: c → ∀ q ∈ tps ++ [z], q ∈ ds := fun z hz q hq => by
        rcases List.mem_append.mp hq with hq | hq
        · exact htp q hq
        · rw [List.mem_singleton.mp hq]; exact hpds z hz
      have htop' : ∀ z : AD, z.2 = topAt (ds.map (·.2)) (ds.length / 2 + i) → (tps ++ [z]).map (·.2) = (List.range (i + 1)).map (fun j => topAt (ds.map (·.2)) (ds.length / 2 + j)) := fun z hz => by
        rw [List.map_append, hte, List.range_succ, List.map_append]; simp [hz]
      have hyroot : ∀ q ∈ y :: c, le alt y q := fun q hq => by
        rcases List.mem_cons.mp hq with rfl | hq
        · exact alt_ord.refl _
        · exact hroot q hq
      refine s_if (wpAny_isTrue_Compare1 ?_)
      walk_at "nm"
      refine e_int (eq_int (wpAny_truthy_bool (ite_b (fun hb => ?_) fun hb => ?_)))
      · -- way 1
        refine s_sub (Call_ (nmG F G (v := .ref 35) rfl (c_def rfl (wpAny_items_cons ?_))))
        walk_at "nm"
        refine wpAny_items_cons ?_
        walk_at "nm"
        refine wpAny_items_nil ⟨G.K.keeps F.keep, ?_⟩
        have N := news_perm (rest' := [(l, listOf (refs (y :: c)).toArray n1), (tl, listOf (refs (tps ++ [minFrom alt y c])).toArray (n2 + 1)), (I, ob'), (S, listOf (refs (ds.drop (ds.length / 2))).toArray 0)]) N (by simp)
        refine c_repl (k := 0) (x := x) (bks := []) G F N (neC hl0 (neC a1.symm (ne1 a4))) (by simp) (fun p hp => hDIn p (hpds p hp)) (hDIn x hxds) (R.less (by lia)) (by simp at hpl ⊢; lia) (y := y) rfl fun h₉ tk n3 F N => ?_
        walk_at "nm"
        refine wpAny_UnaryOp (e_int (o_neg ?_))
        have N := news_perm (rest' := [(tl, listOf (refs tps ++ [Value.ref (minFrom alt y c).1]).toArray (n2 + 1)), (l, listOf (refs (hrepl alt (y :: c) x)).toArray n3), (I, ob'), (S, listOf (refs (ds.drop (ds.length / 2))).toArray 0)]) N (by simp)
        refine l_setLast F N (neC hl0.symm (neC a2.symm (ne1 a5))) fun h₁₀ F N => ?_
        refine s_expr (Call_ (nmG F G (v := .ref 21) rfl (c_def rfl (wpAny_items_cons ?_))))
        walk_at "nm"
        refine wpAny_items_cons (Subscript_ ?_)
        walk_at "nm"
        refine wpAny_UnaryOp (e_int (o_neg (l_last (N _ (.head _)).1 ?_)))
        refine wpAny_items_nil ⟨G.K.keeps F.keep, ?_⟩
        have N := news_perm (rest' := [(l, listOf (refs (hrepl alt (y :: c) x)).toArray n3), (tl, listOf (refs (tps ++ [y])).toArray (n2 + 1)), (I, ob'), (S, listOf (refs (ds.drop (ds.length / 2))).toArray 0)]) N (by simp)
        have hpr := hrepl_perm (lt := alt) (y := y) (r := c) (x := x)
        refine c_push (k := 0) (x := y) (bks := []) G F N (neC hl0 (neC a1.symm (ne1 a4))) (by simp) (fun p hp => ?_) (hDIn y (hpds y (.head _))) (R.less (by lia)) (by rw [hpr.length_eq]; simp at hpl ⊢; lia) fun h₁₁ tk n4 F N => ?_
        · rcases List.mem_cons.mp (hpr.mem_iff.mp hp) with rfl | hp
          · exact hDIn _ hxds
          · exact hDIn p (hpds p (.tail _ hp))
        refine s_nil (then_next (s_nil ⟨nn, by lia, _, _, _, I, ob', S, hpush alt (hrepl alt (y :: c) x) y, tps ++ [y], i + 1, n4, n2 + 1, rfl, rfl, F, news_perm N (by walk_at "sub"), ho', ⟨a1, a2, a3, a4, a5⟩, by walk_at "lk", by walk_at "lk", by walk_at "lk", by walk_at "lk", by lia,
          hpush_heap alt_ord (hrepl_heap alt_ord hhp), ?_, htps y (.head _), htop' y (htop y (.head _) hyroot)⟩))
        rw [htake]
        refine (hpush_perm.trans (hpr.cons y)).trans ?_
        exact ((List.Perm.swap x y c).trans (List.Perm.cons x hpm)).trans (List.perm_append_singleton x _).symm
      · -- the other ways
        refine s_expr (Call_ (nmG F G (v := .ref 21) rfl (c_def rfl (wpAny_items_cons ?_))))
        walk_at "nm"
        refine wpAny_items_cons ?_
        walk_at "nm"
        refine wpAny_items_nil ⟨G.K.keeps F.keep, ?_⟩
        have N := news_perm (rest' := [(l, listOf (refs (y :: c)).toArray n1), (tl, listOf (refs (tps ++ [minFrom alt y c])).toArray (n2 + 1)), (I, ob'), (S, listOf (refs (ds.drop (ds.length / 2))).toArray 0)]) N (by simp)
        refine c_push (k := 0) (x := x) (bks := []) G F N (neC hl0 (neC a1.symm (ne1 a4))) (by simp) (fun p hp => hDIn p (hpds p hp)) (hDIn x hxds) (R.less (by lia)) (by simp at hpl ⊢; lia) fun h₁₁ tk n4 F N => ?_
        refine s_nil (then_next (s_nil ⟨nn, by lia, _, _, _, I, ob', S, hpush alt (y :: c) x, tps ++ [minFrom alt y c], i + 1, n4, n2 + 1, rfl, rfl, F, news_perm N (by walk_at "sub"), ho', ⟨a1, a2, a3, a4, a5⟩, by walk_at "lk", by walk_at "lk", by walk_at "lk", by walk_at "lk", by lia,
          hpush_heap alt_ord hhp, ?_, htps _ hmin.1, htop' _ hmtop⟩))
        rw [htake]
        exact hpush_perm.trans ((List.Perm.cons x hpm).trans (List.perm_append_singleton x _).symm)
  case done =>
    rintro s' ⟨h, m, tk, ps₀, tps, n1, n2, rfl, F, N, m1, m2, m3, m4, hhp, hpm, htp, hte⟩
    refine s_asg (List_ (wpAny_items_nil (n_list F N (by simp) fun ll h₃ F N hll _ _ => ?_)))
    refine sto F N fun h₃ F N => ?_
    refine s_asg (List_ (wpAny_items_nil (n_list F N (by simp) fun cl h₃ F N hcl _ _ => ?_)))
    refine sto F N fun h₃ F N => ?_
    have hled0 : Led4 l ll cl tl [] := ⟨hll _ (.head _), hcl _ (.tail _ (.head _)), hl0.symm, hcl _ (.head _), fun e => hll _ (.tail _ (.head _)) e.symm, fun e => hcl _ (.tail _ (.tail _ (.head _))) e.symm, by simp⟩
    have hall : (ds.map (·.2) ++ backsOf (ds.map (·.2))).length ≤ 26 := by
      have : (backsOf (ds.map (·.2))).length ≤ ds.length := by
        unfold backsOf; rw [List.length_map]
        exact Nat.le_trans (List.length_filter_le ..) (by simp)
      rw [List.length_append, List.length_map]; lia
    have hP0 : P2 (ds.map (·.2) ++ backsOf (ds.map (·.2))) (ps₀.map (·.2)) [] := (P2.start hgood).congr (hpm.map _).symm
    -- while heap or later
    refine s_whileK (CInv gs dr os g L l ll cl tl D way tw tps (ds.map (·.2) ++ backsOf (ds.map (·.2))) True) (CInv gs dr os g L l ll cl tl D way tw tps (ds.map (·.2) ++ backsOf (ds.map (·.2))) False)
      (C3_I3 gs dr os g L l ll cl tl tps way tw D ds)
      (P2.m (ps₀.map (·.2))) ⟨_, _, _, ps₀, [], [], [], n1, 0, 0, n2, rfl, F, news_perm N (by walk_at "sub"), hled0, by walk_at "lk", by walk_at "lk", by walk_at "lk", by walk_at "lk", by walk_at "lk", by walk_at "lk", hhp, by simp, by simp, fun q hq => hDIn q (hpm.mem_iff.mp (by simpa using hq)), by simp, by simpa using hP0, by simp, fun _ => trivial⟩ ?test ?turn2 ?done2
    case test =>
      rintro nn s' ⟨h, m, tk, ps, lt, co, bks, n1, n2, n3, n4, rfl, F, N, hled, m1, m2, m3, m4, m5, m6, hhp, hlt1, hlt2, hDi, hDc, hP, hnn, -⟩
      have hHlen : (ps ++ lt).length ≤ 26 := by
        have := hP.perm.length_eq
        simp only [List.length_append, List.length_map] at this hall ⊢; lia
      have hpslen : ps.length ≤ 26 := by simp only [List.length_append] at hHlen; lia
      refine wpAny_isTrue_BoolOp (wpAny_allTrue_Or_cons (wpAny_isTrue_value ?_))
      walk_at "nm"
      refine l_true (N _ (.head _)).1 (by simp; lia) (ite_b (fun hb => ?_) fun hb => ?_)
      · simp only [if_true]
        exact ⟨_, _, _, ps, lt, co, bks, n1, n2, n3, n4, rfl, F, N, hled, m1, m2, m3, m4, m5, m6, hhp, hlt1, hlt2, hDi, hDc, hP, hnn, fun e => by
          rw [(List.append_eq_nil_iff.mp e).1] at hb; simp at hb⟩
      · have hps : ps = [] := by simpa using hb
        subst hps
        refine wpAny_allTrue_Or_cons (wpAny_isTrue_value ?_)
        walk_at "nm"
        refine l_true (N _ (.tail _ (.head _))).1 (by simp; lia) (ite_b (fun hb2 => ?_) fun hb2 => ?_)
        · simp only [if_true]
          exact ⟨_, _, _, [], lt, co, bks, n1, n2, n3, n4, rfl, F, N, hled, m1, m2, m3, m4, m5, m6, hhp, hlt1, hlt2, hDi, hDc, hP, hnn, fun e => by
            rw [(List.append_eq_nil_iff.mp e).2] at hb2; simp at hb2⟩
        · have hlt : lt = [] := by simpa using hb2
          subst hlt
          refine wpAny_allTrue_Or_nil ?_
          simp only [Bool.false_eq_true, if_false]
          exact ⟨_, _, _, co, bks, n1, n2, n3, n4, rfl, F, N, hled, m1, m2, m3, m4, m6, hDc, by simpa using hP⟩
    case turn2 =>
      rintro nn s' ⟨h, m, tk, ps, lt, co, bks, n1, n2, n3, n4, rfl, F, N, hled, m1, m2, m3, m4, m5, m6, hhp, hlt1, hlt2, hDi, hDc, hP, rfl, hne⟩
      have hHlen : (ps ++ lt).length ≤ 26 := by
        have := hP.perm.length_eq
        simp only [List.length_append, List.length_map] at this hall ⊢; lia
      have hpslen : ps.length ≤ 26 := by simp only [List.length_append] at hHlen; lia
      have hcolen : co.length ≤ 26 := by
        have := hP.perm.length_eq
        simp only [List.length_append, List.length_map] at this hall ⊢; lia
      have hsub : ∀ {a b c : Addr × Obj}, ∀ q ∈ bks, q ∈ a :: b :: c :: bks := fun q hq => .tail _ (.tail _ (.tail _ hq))
      have hDp : ∀ q ∈ ps, DIn g bks q := fun q hq => hDi q (List.mem_append_left _ hq)
      refine s_ifK (fun s' => ∃ tk y, s' = ⟨h, gs, dr, tk, os⟩ ∧ way = 1 ∧ ps[0]? = some y ∧ y.2.kind = 2) (fun s' => ∃ tk, s' = ⟨h, gs, dr, tk, os⟩ ∧ (way = 1 → ∀ y, ps[0]? = some y → y.2.kind ≠ 2))
        (CMid gs dr os g L l ll cl tl D way tw tps (ds.map (·.2) ++ backsOf (ds.map (·.2))) ((ps ++ lt).map (·.2)) co 0 (fun d => if way = 1 then bk d else [])) ?test1 ?yes1 ?no1 ?rest1
      case test1 =>
        refine wpAny_isTrue_BoolOp (wpAny_allTrue_And_cons (wpAny_isTrue_Compare1 ?_))
        walk_at "nm"
        refine e_int (eq_int (wpAny_truthy_bool (ite_b (fun hw => ?_) fun hw => ?_)))
        · have hw1 : way = 1 := by simpa using hw
          have hlt0 : lt = [] := hlt2 (by lia)
          have hps : ps ≠ [] := fun e => hne (by rw [e, hlt0]; rfl)
          obtain ⟨y, hy⟩ := item0 hps
          refine wpAny_allTrue_And_cons (wpAny_isTrue_Compare1 (Subscript_ (Subscript_ ?_)))
          walk_at "nm"
          refine e_int (l_getN (i := 0) (N _ (.head _)).1 hy (by lia) (e_int ?_))
          refine t_kind ((hDp y (List.mem_of_getElem? hy)).at F N (fun q hq => .tail _ (hsub q hq))) fun tk' => ?_
          refine e_int (eq_int (wpAny_truthy_bool (ite_b (fun hk2 => ?_) fun hk2 => ?_)))
          · refine wpAny_allTrue_And_nil ?_
            simp only [if_true]
            exact ⟨_, y, rfl, hw1, hy, by simpa using hk2⟩
          · simp only [Bool.false_eq_true, if_false]
            refine ⟨_, rfl, fun _ y' hy' => ?_⟩
            rw [hy] at hy'; cases hy'; simpa using hk2
        · have hw1 : way ≠ 1 := by simpa using hw
          simp only [Bool.false_eq_true, if_false]
          exact ⟨_, rfl, fun e => absurd e hw1⟩
      case yes1 =>
        rintro s' ⟨tk, y, rfl, hw1, hy, hk2⟩
        have hlt0 : lt = [] := hlt2 (by lia)
        subst hlt0
        obtain ⟨c, rfl⟩ : ∃ c, ps = y :: c := by
          cases ps with
          | nil => simp at hy
          | cons a c => simp at hy; subst hy; exact ⟨c, rfl⟩
        refine s_asg (Call_ (nmG F G (v := .ref 35) rfl (c_def rfl (wpAny_items_cons ?_))))
        walk_at "nm"
        refine wpAny_items_cons (Call_ (nmG F G (v := .ref 131) rfl (c_def rfl (wpAny_items_cons (Subscript_ ?_)))))
        walk_at "nm"
        refine e_int (l_getN (i := 0) (N _ (.head _)).1 hy (by lia) (wpAny_items_nil ⟨G.K.keeps F.keep, ?_⟩))
        refine c_back (k := 0) (bks := bks) (x := y) G F N (fun q hq => .tail _ (hsub q hq)) (hDp y (.head _)) (R.less (by lia)) fun b vals h₄ tk F N hb hi => wpAny_items_nil ⟨G.K.keeps F.keep, ?_⟩
        have hled' := hled.new (o := tupOf vals) hb
        have N := news_perm (rest' := (l, listOf (refs (y :: c)).toArray n1) :: (ll, listOf (refs []).toArray n2) :: (cl, listOf (refs co).toArray n3) :: (tl, listOf (refs tps).toArray n4) :: (b, tupOf vals) :: bks) N rot5
        have hpr := hrepl_perm (lt := alt) (y := y) (r := c) (x := ((b, back y.2) : AD))
        refine c_repl (k := 0) (x := (b, back y.2)) (bks := (b, tupOf vals) :: bks) G F N hled'.nl (fun q hq => .tail _ (.tail _ (.tail _ hq))) (fun p hp => (hDp p hp).more) (DIn.new hi) (R.less (by lia)) (by lia) (y := y) rfl fun h₅ tk n5 F N => ?_
        refine sto F N fun h₆ F N => s_nil ⟨rfl, _, _, _, hrepl alt (y :: c) (b, back y.2), [], (b, tupOf vals) :: bks, n5, n2, n3, n4, y, c.map (·.2), rfl, F, N, hled', by walk_at "lk", by walk_at "lk", by walk_at "lk", by walk_at "lk", by walk_at "lk", by walk_at "lk", by walk_at "lk",
          hrepl_heap alt_ord hhp, by simp, by simp, fun q hq => ?_, fun q hq => (hDc q hq).more, (hDp y (.head _)).more, by simp, fun x hx => ?_, ?_⟩
        · rw [List.append_nil] at hq
          rcases List.mem_cons.mp (hpr.mem_iff.mp hq) with rfl | hq
          · exact DIn.new hi
          · exact (hDp q (.tail _ hq)).more
        · obtain ⟨q, hq, rfl⟩ := List.mem_map.mp hx
          exact IsHeap.root alt_ord hhp q hq
        · try dsimp only
          rw [List.append_nil, if_pos hw1]
          unfold bk
          rw [if_pos hk2]
          exact (hpr.map _).trans (List.perm_append_singleton _ _).symm
      case no1 =>
        rintro s' ⟨tk, rfl, hnk⟩
        refine s_if (wpAny_isTrue_value ?_)
        walk_at "nm"
        refine l_true (N _ (.tail _ (.head _))).1 (by simp; lia) (ite_b (fun hb => ?_) fun hb => ?_)
        · -- later
          obtain ⟨x, rfl⟩ : ∃ x, lt = [x] := by
            cases lt with
            | nil => simp at hb
            | cons x r => cases r with
              | nil => exact ⟨x, rfl⟩
              | cons _ _ => simp at hlt1
          have hw2 : way = 2 := Classical.byContradiction fun e => by have := hlt2 e; cases this
          have hx : DIn g bks x := hDi x (by simp)
          refine s_asg (Call_ (nmG F G (v := .ref 42) rfl (c_def rfl (wpAny_items_cons ?_))))
          walk_at "nm"
          refine wpAny_items_cons (MethodCall_ ?_)
          walk_at "nm"
          refine l_meth (N _ (.tail _ (.head _))).1 PySem.F.slot_list_pop PySem.F.type_list_pop (c_blt0 ?_)
          have N := news_perm (rest' := (ll, listOf ([] ++ [Value.ref x.1]).toArray n2) :: (l, listOf (refs ps).toArray n1) :: (cl, listOf (refs co).toArray n3) :: (tl, listOf (refs tps).toArray n4) :: bks) N sw2
          refine l_pop F N hled.nll (by simp) fun h₄ F N => wpAny_items_nil ⟨G.K.keeps F.keep, ?_⟩
          have N := news_perm (rest' := (l, listOf (refs ps).toArray n1) :: (ll, listOf (refs []).toArray (n2 + 1)) :: (cl, listOf (refs co).toArray n3) :: (tl, listOf (refs tps).toArray n4) :: bks) N sw2
          refine c_pushpop (k := 0) (x := x) (bks := bks) G F N hled.nl hsub hDp hx (R.less (by lia)) (by lia) (fun h₅ tk n5 F hc N => ?_) fun y h₅ tk n5 F hy hc N => ?_
          · refine sto F N fun h₆ F N => s_nil (then_next (s_nil ⟨rfl, _, _, _, ps, [], bks, n5, n2 + 1, n3, n4, x, ps.map (·.2), rfl, F, N, hled, by walk_at "lk", by walk_at "lk", by walk_at "lk", by walk_at "lk", by walk_at "lk", by walk_at "lk", by walk_at "lk",
              hhp, by simp, by simp, fun q hq => hDp q (by simpa using hq), hDc, hx, ?_, fun z hz => ?_, ?_⟩))
            · rw [List.map_append]; exact List.perm_append_singleton _ _
            · obtain ⟨q, hq, rfl⟩ := List.mem_map.mp hz
              rcases hc with e | ⟨y, hy, hyx⟩
              · rw [e] at hq; cases hq
              · exact alt_ord.trans (a := x) (b := y) (c := q) hyx (heap_min hhp hy q hq)
            · (try dsimp only); rw [if_neg (by lia)]; simp
          · obtain ⟨c, rfl⟩ : ∃ c, ps = y :: c := by
              cases ps with
              | nil => simp at hy
              | cons a c => simp at hy; subst hy; exact ⟨c, rfl⟩
            have hpr := hrepl_perm (lt := alt) (y := y) (r := c) (x := x)
            refine sto F N fun h₆ F N => s_nil (then_next (s_nil ⟨rfl, _, _, _, hrepl alt (y :: c) x, [], bks, n5, n2 + 1, n3, n4, y, x.2 :: c.map (·.2), rfl, F, N, hled, by walk_at "lk", by walk_at "lk", by walk_at "lk", by walk_at "lk", by walk_at "lk", by walk_at "lk", by walk_at "lk",
              hrepl_heap alt_ord hhp, by simp, by simp, fun q hq => ?_, hDc, hDp y (.head _), ?_, fun z hz => ?_, ?_⟩))
            · rw [List.append_nil] at hq
              rcases List.mem_cons.mp (hpr.mem_iff.mp hq) with rfl | hq
              · exact hx
              · exact hDp q (.tail _ hq)
            · rw [List.map_append, List.map_cons]
              exact ((List.perm_append_singleton _ _).trans (List.Perm.swap ..))
            · rcases List.mem_cons.mp hz with rfl | hz
              · exact alt_ord.of_lt (a := y) (b := x) hc
              · obtain ⟨q, hq, rfl⟩ := List.mem_map.mp hz
                exact IsHeap.root alt_ord hhp q hq
            · (try dsimp only); rw [if_neg (by lia), List.append_nil, List.append_nil]
              exact hpr.map _
        · have hlt0 : lt = [] := by simpa using hb
          subst hlt0
          have hps : ps ≠ [] := fun e => hne (by rw [e]; rfl)
          obtain ⟨c, z, rfl⟩ : ∃ c z, ps = c ++ [z] := ⟨ps.dropLast, ps.getLast hps, (List.dropLast_concat_getLast hps).symm⟩
          refine s_asg (Call_ (nmG F G (v := .ref 28) rfl (c_def rfl (wpAny_items_cons ?_))))
          walk_at "nm"
          refine wpAny_items_nil ⟨G.K.keeps F.keep, ?_⟩
          have hz : DIn g bks z := hDp z (by simp)
          refine c_pop (k := 0) (bks := bks) G F N hled.nl hsub hDp (R.less (by lia)) (by lia) rfl (fun h₅ tk n5 F5 hc N5 => ?_) fun y h₅ tk n5 F hy N => ?_
          · subst hc
            refine sto F5 N5 fun h₆ F N => s_nil (then_next (s_nil ⟨rfl, _, _, _, [], [], bks, n5, n2, n3, n4, z, [], rfl, F, N, hled, by walk_at "lk", by walk_at "lk", by walk_at "lk", by walk_at "lk", by walk_at "lk", by walk_at "lk", by walk_at "lk",
              fun i a b _ ha => by simp at ha, by simp, by simp, by simp, hDc, hz, by simp, by simp, ?_⟩))
            by_cases hw1 : way = 1
            · have := hnk hw1 z rfl
              simp [hw1, bk, this]
            · simp [hw1]
          · obtain ⟨r, rfl⟩ : ∃ r, c = y :: r := by
              cases c with
              | nil => simp at hy
              | cons a c => simp at hy; subst hy; exact ⟨c, rfl⟩
            have hpr := hrepl_perm (lt := alt) (y := y) (r := r) (x := z)
            have hy0 : (y :: r ++ [z])[0]? = some y := rfl
            refine sto F N fun h₆ F N => s_nil (then_next (s_nil ⟨rfl, _, _, _, hrepl alt (y :: r) z, [], bks, n5, n2, n3, n4, y, z.2 :: r.map (·.2), rfl, F, N, hled, by walk_at "lk", by walk_at "lk", by walk_at "lk", by walk_at "lk", by walk_at "lk", by walk_at "lk", by walk_at "lk",
              hrepl_heap alt_ord hhp.init, by simp, by simp, fun q hq => ?_, hDc, hDp y (by simp), ?_, fun q hq => ?_, ?_⟩))
            · rw [List.append_nil] at hq
              rcases List.mem_cons.mp (hpr.mem_iff.mp hq) with rfl | hq
              · exact hz
              · exact hDp q (by simp [hq])
            · rw [List.append_nil, List.map_append, List.map_cons, List.cons_append]
              exact List.Perm.cons _ (List.perm_append_singleton _ _)
            · rcases List.mem_cons.mp hq with rfl | hq
              · exact heap_min hhp hy0 z (by simp)
              · obtain ⟨q', hq', rfl⟩ := List.mem_map.mp hq
                exact heap_min hhp hy0 q' (by simp [hq'])
            · have e : (if way = 1 then bk y.2 else []) = [] := by
                by_cases hw1 : way = 1
                · have := hnk hw1 y rfl
                  simp [hw1, bk, this]
                · simp [hw1]
              (try dsimp only); rw [e, List.append_nil, List.append_nil]
              exact hpr.map _
      case rest1 =>
        rintro s' ⟨h, m, tk, ps1, lt1, bks1, n1, n2, n3, n4, d, K, rfl, F, N, hled, m1, m2, m3, m4, m5, m6, m7, hhp1, hl1, hl2, hDi1, hDc1, hd, hK, hmin, hpk⟩
        have hlt1 : lt1 = [] := by simpa using hl1
        subst hlt1
        rw [List.append_nil] at hpk hDi1
        have hKlen : K.length + 1 ≤ 26 := by
          have := hK.length_eq; simp only [List.length_cons, List.length_map] at this; lia
        have hbk1 : ∀ d : Deed, (bk d).length ≤ 1 := fun d => by unfold bk; split <;> simp
        have hps1 : ps1.length ≤ 27 := by
          have := hpk.length_eq
          have h2 := hbk1 d.2
          rw [List.length_map, List.length_append] at this
          try dsimp only at this
          by_cases hw : way = 1
          · rw [if_pos hw] at this; lia
          · rw [if_neg hw] at this; simp at this; lia
        -- if deed[4] == 2 and way == 0
        refine s_ifK (fun s' => ∃ tk, s' = ⟨h, gs, dr, tk, os⟩ ∧ d.2.kind = 2 ∧ way = 0) (fun s' => ∃ tk, s' = ⟨h, gs, dr, tk, os⟩ ∧ ¬ (d.2.kind = 2 ∧ way = 0))
          (CMid gs dr os g L l ll cl tl D way tw tps (ds.map (·.2) ++ backsOf (ds.map (·.2))) ((ps ++ lt).map (·.2)) co 0 (fun d => if way = 1 ∨ way = 0 then bk d else [])) ?test2 ?yes2 ?no2 ?rest2
        case test2 =>
          refine wpAny_isTrue_BoolOp (wpAny_allTrue_And_cons (wpAny_isTrue_Compare1 (Subscript_ ?_)))
          walk_at "nm"
          refine e_int (t_kind (hd.at F N (fun q hq => .tail _ (.tail _ (.tail _ (.tail _ hq))))) fun tk' => ?_)
          refine e_int (eq_int (wpAny_truthy_bool (ite_b (fun hb => ?_) fun hb => ?_)))
          · refine wpAny_allTrue_And_cons (wpAny_isTrue_Compare1 ?_)
            walk_at "nm"
            refine e_int (eq_int (wpAny_truthy_bool (ite_b (fun hb2 => ?_) fun hb2 => ?_)))
            · refine wpAny_allTrue_And_nil ?_
              simp only [if_true]
              exact ⟨_, rfl, by simpa using hb, by simpa using hb2⟩
            · simp only [Bool.false_eq_true, if_false]
              exact ⟨_, rfl, fun e => by simp [e.2] at hb2⟩
          · simp only [Bool.false_eq_true, if_false]
            exact ⟨_, rfl, fun e => by simp [e.1] at hb⟩
        case yes2 =>
          rintro s' ⟨tk, rfl, hk2, hw0⟩
          refine s_expr (Call_ (nmG F G (v := .ref 21) rfl (c_def rfl (wpAny_items_cons ?_))))
          walk_at "nm"
          refine wpAny_items_cons (Call_ (nmG F G (v := .ref 131) rfl (c_def rfl (wpAny_items_cons ?_))))
          walk_at "nm"
          refine wpAny_items_nil ⟨G.K.keeps F.keep, ?_⟩
          refine c_back (k := 0) (bks := bks1) (x := d) G F N (fun q hq => .tail _ (.tail _ (.tail _ (.tail _ hq)))) hd (R.less (by lia)) fun b vals h₄ tk F N hb hi => wpAny_items_nil ⟨G.K.keeps F.keep, ?_⟩
          have hled' := hled.new (o := tupOf vals) hb
          have N := news_perm (rest' := (l, listOf (refs ps1).toArray n1) :: (ll, listOf (refs []).toArray n2) :: (cl, listOf (refs co).toArray n3) :: (tl, listOf (refs tps).toArray n4) :: (b, tupOf vals) :: bks1) N rot5
          have hpp := hpush_perm (lt := alt) (xs := ps1) (x := ((b, back d.2) : AD))
          refine c_push (k := 0) (x := (b, back d.2)) (bks := (b, tupOf vals) :: bks1) G F N hled'.nl (fun q hq => .tail _ (.tail _ (.tail _ hq))) (fun p hp => (hDi1 p hp).more) (DIn.new hi) (R.less (by lia)) (by lia) fun h₅ tk n5 F N => ?_
          refine s_nil ⟨rfl, _, _, _, hpush alt ps1 (b, back d.2), [], (b, tupOf vals) :: bks1, n5, n2, n3, n4, d, K, rfl, F, N, hled', m1, m2, m3, m4, m5, m6, m7,
            hpush_heap alt_ord hhp1, by simp, by simp, fun q hq => ?_, fun q hq => (hDc1 q hq).more, hd.more, hK, hmin, ?_⟩
          · rw [List.append_nil] at hq
            rcases List.mem_cons.mp (hpp.mem_iff.mp hq) with rfl | hq
            · exact DIn.new hi
            · exact (hDi1 q hq).more
          · try dsimp only at hpk ⊢
            rw [if_neg (by lia), List.append_nil] at hpk
            rw [if_pos (.inr hw0), List.append_nil]
            unfold bk
            rw [if_pos hk2]
            exact ((hpp.map _).trans (List.Perm.cons _ hpk)).trans (List.perm_append_singleton _ _).symm
        case no2 =>
          rintro s' ⟨tk, rfl, hnk⟩
          refine s_nil ⟨rfl, _, _, _, ps1, [], bks1, n1, n2, n3, n4, d, K, rfl, F, N, hled, m1, m2, m3, m4, m5, m6, m7, hhp1, by simp, by simp, by simpa using hDi1, hDc1, hd, hK, hmin, ?_⟩
          try dsimp only at hpk ⊢
          rw [List.append_nil]
          by_cases hw0 : way = 0
          · have hk2 : d.2.kind ≠ 2 := fun e => hnk ⟨e, hw0⟩
            have e : bk d.2 = [] := by simp [bk, hk2]
            rw [e] at hpk ⊢; simpa using hpk
          · by_cases hw1 : way = 1
            · rw [if_pos hw1] at hpk; rw [if_pos (.inl hw1)]; exact hpk
            · rw [if_neg hw1] at hpk; rw [if_neg (by lia)]; exact hpk
        case rest2 =>
          clear hpk hDi1 hhp1 hDc1 hps1 hd hK hmin hKlen
          clear m1 m2 m3 m4 m5 m6 m7 F N hled
          rintro s' ⟨h, m, tk, ps1, lt1, bks1, n1, n2, n3, n4, d, K, rfl, F, N, hled, m1, m2, m3, m4, m5, m6, m7, hhp1, hl1, hl2, hDi1, hDc1, hd, hK, hmin, hpk⟩
          have hlt1 : lt1 = [] := by simpa using hl1
          subst hlt1
          rw [List.append_nil] at hpk hDi1
          refine s_ifK (fun s' => ∃ tk, s' = ⟨h, gs, dr, tk, os⟩ ∧ d.2.kind = 2 ∧ way = 2) (fun s' => ∃ tk, s' = ⟨h, gs, dr, tk, os⟩ ∧ ¬ (d.2.kind = 2 ∧ way = 2))
            (CMid gs dr os g L l ll cl tl D way tw tps (ds.map (·.2) ++ backsOf (ds.map (·.2))) ((ps ++ lt).map (·.2)) co 1 bk) ?test3 ?yes3 ?no3 ?rest3
          case test3 =>
            refine wpAny_isTrue_BoolOp (wpAny_allTrue_And_cons (wpAny_isTrue_Compare1 (Subscript_ ?_)))
            walk_at "nm"
            refine e_int (t_kind (hd.at F N (fun q hq => .tail _ (.tail _ (.tail _ (.tail _ hq))))) fun tk' => ?_)
            refine e_int (eq_int (wpAny_truthy_bool (ite_b (fun hb => ?_) fun hb => ?_)))
            · refine wpAny_allTrue_And_cons (wpAny_isTrue_Compare1 ?_)
              walk_at "nm"
              refine e_int (eq_int (wpAny_truthy_bool (ite_b (fun hb2 => ?_) fun hb2 => ?_)))
              · refine wpAny_allTrue_And_nil ?_
                simp only [if_true]
                exact ⟨_, rfl, by simpa using hb, by simpa using hb2⟩
              · simp only [Bool.false_eq_true, if_false]
                exact ⟨_, rfl, fun e => by simp [e.2] at hb2⟩
            · simp only [Bool.false_eq_true, if_false]
              exact ⟨_, rfl, fun e => by simp [e.1] at hb⟩
          case yes3 =>
            rintro s' ⟨tk, rfl, hk2, hw2⟩
            refine s_expr (MethodCall_ ?_)
            walk_at "nm"
            refine l_meth (N _ (.tail _ (.head _))).1 PySem.F.slot_list_append PySem.F.type_list_append (c_blt (wpAny_items_cons (Call_ (nmG F G (v := .ref 131) rfl (c_def rfl (wpAny_items_cons ?_))))))
            walk_at "nm"
            refine wpAny_items_nil ⟨G.K.keeps F.keep, ?_⟩
            refine c_back (k := 0) (bks := bks1) (x := d) G F N (fun q hq => .tail _ (.tail _ (.tail _ (.tail _ hq)))) hd (R.less (by lia)) fun b vals h₄ tk F N hb hi => wpAny_items_nil ?_
            have hled' := hled.new (o := tupOf vals) hb
            have N := news_perm (rest' := (l, listOf (refs ps1).toArray n1) :: (ll, listOf (refs []).toArray n2) :: (cl, listOf (refs co).toArray n3) :: (tl, listOf (refs tps).toArray n4) :: (b, tupOf vals) :: bks1) N rot5
            have N := news_perm (rest' := (ll, listOf (refs []).toArray n2) :: (l, listOf (refs ps1).toArray n1) :: (cl, listOf (refs co).toArray n3) :: (tl, listOf (refs tps).toArray n4) :: (b, tupOf vals) :: bks1) N sw2
            refine l_app F N hled'.nll (by simp) fun h₅ F N => ?_
            have N := news_perm (rest' := (l, listOf (refs ps1).toArray n1) :: (ll, listOf (refs [((b, back d.2) : AD)]).toArray (n2 + 1)) :: (cl, listOf (refs co).toArray n3) :: (tl, listOf (refs tps).toArray n4) :: (b, tupOf vals) :: bks1) N sw2
            refine s_nil ⟨rfl, _, _, _, ps1, [(b, back d.2)], (b, tupOf vals) :: bks1, n1, n2 + 1, n3, n4, d, K, rfl, F, N, hled', m1, m2, m3, m4, m5, m6, m7,
              hhp1, by simp, fun e => absurd hw2 e, fun q hq => ?_, fun q hq => (hDc1 q hq).more, hd.more, hK, hmin, ?_⟩
            · rcases List.mem_append.mp hq with hq | hq
              · exact (hDi1 q hq).more
              · rw [List.mem_singleton.mp hq]; exact DIn.new hi
            · try dsimp only at hpk
              rw [if_neg (by lia), List.append_nil] at hpk
              unfold bk
              rw [if_pos hk2, List.map_append]
              exact hpk.append_right _
          case no3 =>
            rintro s' ⟨tk, rfl, hnk⟩
            refine s_nil ⟨rfl, _, _, _, ps1, [], bks1, n1, n2, n3, n4, d, K, rfl, F, N, hled, m1, m2, m3, m4, m5, m6, m7, hhp1, by simp, by simp, by simpa using hDi1, hDc1, hd, hK, hmin, ?_⟩
            try dsimp only at hpk
            rw [List.append_nil]
            by_cases hw2 : way = 2
            · have hk2 : d.2.kind ≠ 2 := fun e => hnk ⟨e, hw2⟩
              have e : bk d.2 = [] := by simp [bk, hk2]
              rw [e] at hpk ⊢; simpa using hpk
            · rw [if_pos (by lia)] at hpk; exact hpk
          case rest3 =>
            clear hpk hDi1 hhp1 hDc1 hd hK hmin
            clear m1 m2 m3 m4 m5 m6 m7 F N hled
            rintro s' ⟨h, m, tk, ps1, lt1, bks1, n1, n2, n3, n4, d, K, rfl, F, N, hled, m1, m2, m3, m4, m5, m6, m7, hhp1, hl1, hl2, hDi1, hDc1, hd, hK, hmin, hpk⟩
            refine s_expr (MethodCall_ ?_)
            walk_at "nm"
            refine l_meth (N _ (.tail _ (.tail _ (.head _)))).1 PySem.F.slot_list_append PySem.F.type_list_append (c_blt (wpAny_items_cons ?_))
            walk_at "nm"
            refine wpAny_items_nil ?_
            have N := news_perm (rest' := (cl, listOf (refs co).toArray n3) :: (l, listOf (refs ps1).toArray n1) :: (ll, listOf (refs lt1).toArray n2) :: (tl, listOf (refs tps).toArray n4) :: bks1) N rot3
            refine l_app F N hled.ncl (by simp; lia) fun h₅ F N => ?_
            have e : refs co ++ [Value.ref d.1] = refs (co ++ [d]) := by simp
            rw [e] at N
            obtain ⟨hP', hm'⟩ := hP.turn hK hmin
            refine s_nil ⟨_, ?_, _, _, _, ps1, lt1, co ++ [d], bks1, n1, n2, n3 + 1, n4, rfl, F, news_perm N rot3', hled, m1, m2, m3, m4, m5, m6, hhp1, hl1, hl2, hDi1, fun q hq => ?_, ?_, rfl, fun _ => trivial⟩
            · rw [P2.m_perm hpk]; exact hm'
            · rcases List.mem_append.mp hq with hq | hq
              · exact hDc1 q hq
              · rw [List.mem_singleton.mp hq]; exact hd
            · rw [show (co ++ [d]).map (·.2) = co.map (·.2) ++ [d.2] by simp]; exact hP'.congr hpk.symm
    case done2 =>
      rintro s' ⟨h, m, tk, co, bks, n1, n2, n3, n4, rfl, F, N, hled, m1, m2, m3, m4, m6, hDc, hP⟩
      obtain ⟨hperm, hsorted⟩ := hP.fin
      subst hA'
      have hst := under_keep F N
      have F₁ := under_fr F N
      have G₁ : Gd w _ := G.keeps hst
      have hn₁ : ∀ p ∈ ((l, listOf (refs []).toArray n1) :: (ll, listOf (refs []).toArray n2) :: (cl, listOf (refs co).toArray n3) :: (tl, listOf (refs tps).toArray n4) :: bks), h.get? p.1 = some p.2 ∧ (hideAll h (List.map (fun x => x.1) ((l, listOf (refs []).toArray n1) :: (ll, listOf (refs []).toArray n2) :: (cl, listOf (refs co).toArray n3) :: (tl, listOf (refs tps).toArray n4) :: bks))).get? p.1 = none :=
        fun p hp => ⟨(N p hp).1, hideAll_none _ (List.mem_map_of_mem hp)⟩
      obtain ⟨x0, hx0⟩ : ∃ x, ds[0]? = some x := ⟨_, List.getElem?_eq_getElem (by lia)⟩
      refine s_seq (wpAny_Try_except ?_)
      refine s_expr (MethodCall_ ?_)
      walk_at "nm"
      refine l_meth (N _ (.tail _ (.tail _ (.head _)))).1 PySem.F.slot_list_append PySem.F.type_list_append (c_blt (wpAny_items_cons (wpAny_IfExp (wpAny_isTrue_Compare1 ?_))))
      walk_at "nm"
      refine e_int (eq_int (wpAny_truthy_bool (ite_b (fun hw => ?_) fun hw => ?_)))
      · refine Call_ (nmG F G (v := .ref 35) rfl (c_def rfl (wpAny_items_cons ?_)))
        walk_at "nm"
        refine wpAny_items_cons (Subscript_ ?_)
        walk_at "nm"
        refine e_int (l_getI (hDl F) (by decide) (by decide) (v := .ref x0.1) (by simp [hx0]) (wpAny_items_nil ⟨G.K.keeps F.keep, ?_⟩))
        refine heapreplace_raise (k := 0) (under_all KB F N rfl) G₁ (fun b o e => of_hideAll _ e) (Nat.le_of_eq (hideAll_size _ _)) hn₁ (.head _) (R.less (by lia)) fun e h' tk hR hu => ?_
        refine caught_SN0 (T' := "IndexError") (s' := ⟨h', gs, dr, tk, os⟩) hR F₁ KB hu XB TB DD KtsTurn.refl rfl PyProof.Rows.Boot.«IndexError» (by decide) PySem.F.isExc_IndexError PySem.F.notTuple_IndexError sub_ie fun h₇ g' T F N KB' XB' TB' DD' => ?_
        refine s_expr (MethodCall_ ?_)
        walk_at "nm"
        refine l_meth (N _ (.tail _ (.tail _ (.head _)))).1 PySem.F.slot_list_append PySem.F.type_list_append (c_blt (wpAny_items_cons (e_str (wpAny_items_nil ?_))))
        have N := news_perm (rest' := (cl, listOf (refs co).toArray n3) :: (l, listOf (refs []).toArray n1) :: (ll, listOf (refs []).toArray n2) :: (tl, listOf (refs tps).toArray n4) :: bks) N rot3
        refine l_app F N hled.ncl (by simp; have := hperm.length_eq; simp only [List.length_map] at this; lia) fun h₈ F N => s_nil (then_next (s_ret (Tuple_ (wpAny_items_cons ?_))))
        walk_at "nm"
        refine wpAny_items_cons ?_
        walk_at "nm"
        refine wpAny_items_nil (n_tup F N (by simp) fun Tt h₉ F N _ _ _ => ?_)
        refine hQ g' h₉ _ Tt tl cl tps co _ _ _ _ T F.keep (frame_size F hL) (fun q hq => ⟨(N q hq).1, (N q hq).2.2⟩) (.head _) (.tail _ (.tail _ (.tail _ (.tail _ (.head _))))) (.tail _ (.head _)) (fun q hq => ?_) (fun q hq => ?_) hte hperm hsorted
        · exact (hDIn q (htp q hq)).turn T DD (by simp)
        · exact (hDc q hq).turn T DD (fun z hz => .tail _ (.tail _ (.tail _ (.tail _ (.tail _ hz)))))
      · refine Call_ (nmG F G (v := .ref 28) rfl (c_def rfl (wpAny_items_cons ?_)))
        walk_at "nm"
        refine wpAny_items_nil ⟨G.K.keeps F.keep, ?_⟩
        refine heappop_raise (k := 0) (under_all KB F N rfl) G₁ (fun b o e => of_hideAll _ e) (Nat.le_of_eq (hideAll_size _ _)) hn₁ (.head _) (R.less (by lia)) fun e h' tk hR hu => ?_
        refine caught_SN0 (T' := "IndexError") (s' := ⟨h', gs, dr, tk, os⟩) hR F₁ KB hu XB TB DD KtsTurn.refl rfl PyProof.Rows.Boot.«IndexError» (by decide) PySem.F.isExc_IndexError PySem.F.notTuple_IndexError sub_ie fun h₇ g' T F N KB' XB' TB' DD' => ?_
        refine s_expr (MethodCall_ ?_)
        walk_at "nm"
        refine l_meth (N _ (.tail _ (.tail _ (.head _)))).1 PySem.F.slot_list_append PySem.F.type_list_append (c_blt (wpAny_items_cons (e_str (wpAny_items_nil ?_))))
        have N := news_perm (rest' := (cl, listOf (refs co).toArray n3) :: (l, listOf (refs []).toArray n1) :: (ll, listOf (refs []).toArray n2) :: (tl, listOf (refs tps).toArray n4) :: bks) N rot3
        refine l_app F N hled.ncl (by simp; have := hperm.length_eq; simp only [List.length_map] at this; lia) fun h₈ F N => s_nil (then_next (s_ret (Tuple_ (wpAny_items_cons ?_))))
        walk_at "nm"
        refine wpAny_items_cons ?_
        walk_at "nm"
        refine wpAny_items_nil (n_tup F N (by simp) fun Tt h₉ F N _ _ _ => ?_)
        refine hQ g' h₉ _ Tt tl cl tps co _ _ _ _ T F.keep (frame_size F hL) (fun q hq => ⟨(N q hq).1, (N q hq).2.2⟩) (.head _) (.tail _ (.tail _ (.tail _ (.tail _ (.head _))))) (.tail _ (.head _)) (fun q hq => ?_) (fun q hq => ?_) hte hperm hsorted
        · exact (hDIn q (htp q hq)).turn T DD (by simp)
        · exact (hDc q hq).turn T DD (fun z hz => .tail _ (.tail _ (.tail _ (.tail _ (.tail _ hz)))))
end
end Mine
namespace Mine
local macro_rules | `(tactic| walk_at "lk") => `(tactic| first | with_reducible exact upd_eq | (refine upd_ne (by rfl) ?_; walk_at "lk") | with_reducible assumption | rfl)
local macro_rules | `(tactic| walk_at "nm") => `(tactic| refine nmL (by with_reducible assumption) (by walk_at "lk") ?_)

/-- a for with any target, and an else -/
theorem s_forA {prog : Program} {w : World} {A : Around} {E : Value → Shared → Prop} {s : Shared} {env : Env} {rest : List Stmt} {Q : Flow → Shared → Prop} {target iter : Expr} {body orelse : List Stmt} {pos : Pos} (I : Value → Nat → Shared → Prop) (J0 J : Shared → Prop)
    (h : wpAny (model prog w) A (eval iter env) (fun x s₁ => wpAny (model prog w) A (pyIter x) (fun it s₂ => ∃ n, I it n s₂) E s₁) E s)
    (turn : ∀ it n s, I it n s → wpAny (model prog w) A (pyNext it) (fun r s₁ => match r with
      | none => J0 s₁
      | some v => wpAny (model prog w) A (letOwnedTupleGo target it v) (fun _ s₁' => wpAny (model prog w) A (assign target env v) (fun _ s₂ => wpAny (model prog w) A (execs body env) (Turn (I it) J Q n) (fun _ _ => False) s₂) (fun _ _ => False) s₁') (fun _ _ => False) s₁) (fun _ _ => False) s)
    (els : ∀ s, J0 s → wpAny (model prog w) A (execs orelse env) (fun f s' => f = .next ∧ J s') (fun _ _ => False) s)
    (done : ∀ s, J s → wpAny (model prog w) A (execs rest env) Q E s)
    (hs : ∀ x, foldedSetIterable iter env x = pure x := by intro _; rfl) : wpAny (model prog w) A (execs (.For target iter body orelse pos :: rest) env) Q E s := by
  refine s_for (wpAny_mono h (fun x s₁ h₁ => wpAny_mono h₁ (fun it s₂ h₂ => ?_) fun _ _ e => e) fun _ _ e => e) hs
  obtain ⟨n, hI⟩ := h₂
  refine codeAny_forLoop_any (I it) (fun n s hI => ?_) n hI
  refine wpAny_mono (turn it n s hI) (fun r s₁ h₁ => ?_) fun _ _ x => x.elim
  cases r with
  | none => exact wpAny_mono (els _ h₁) (fun f s' hf => by obtain ⟨rfl, hj⟩ := hf; exact then_next (done _ hj)) fun _ _ x => x.elim
  | some v =>
    refine wpAny_mono h₁ (fun _ s₂ h₂ => wpAny_mono h₂ (fun _ s₃ h₃ => wpAny_mono h₃ (fun f s₄ h₄ => ?_) fun _ _ x => x.elim) fun _ _ x => x.elim) fun _ _ x => x.elim
    cases f with
    | next => exact h₄
    | cont => exact h₄
    | brk => exact then_next (done _ h₄)
    | ret v => exact then_ret h₄

/-! enumerate over a list -/
abbrev enumOf (it : Addr) (i : Int) (old : Value) : Obj := { cls := .type "enumerate", data := .fields #[.none, .bool false, .ref it, rawInt i, .none, old] }
section
variable {prog : Program} {w : World} {A : Around} {E : Value → Shared → Prop} {h : Heap} {gs : Array GenState} {dr : Drawn} {t : Nat} {os : OsState} {g : Heap} {L l e it : Addr} {m : Str → Option Value} {rest : List (Addr × Obj)} {vs : List Value} {i : Nat} {ob : Obj} {v old : Value}
theorem i_enum {Q : Value → Shared → Prop} (F : Fr g L h m) (N : News g L h rest) (hl : h.IsList l vs.toArray)
    (q : ∀ e it ob h', Fr g L h' m → News g L h' ((e, enumOf it 0 .none) :: (it, ob) :: rest) → isLI ob l 0 → (∀ p ∈ rest, p.1 ≠ e ∧ p.1 ≠ it) → e ≠ it → l ≠ it → l ≠ e → Q (.ref e) ⟨h', gs, dr, t, os⟩) : wpAny (model prog w) A (call (.type "enumerate") [.ref l]) Q E ⟨h, gs, dr, t, os⟩ := by
  refine call_enumerate_list (s := ⟨h, gs, dr, t, os⟩) hl fun h' he hit hsz hk => ?_
  obtain ⟨ol, hol, _⟩ := hl
  obtain ⟨ob, hob, hc, hd⟩ := hit
  have hlt : l < h.objs.size := Heap.lt_size hol
  have hLt : @LT.lt Nat _ L h.objs.size := F.ns.lt
  have hfr : ∀ a : Nat, h.objs.size ≤ a → g.get? a = none := fun a ha => Heap.get?_none_of_le (Nat.le_trans F.above (Nat.le_trans (Nat.le_of_lt hLt) ha))
  have hres : ∀ p ∈ rest, p.1 < h.objs.size := fun p hp => Heap.lt_size (N p hp).1
  refine q (h.objs.size + 1) h.objs.size ob h' (kept_fr F hk) (fun p hp => ?_) ⟨hc, hd⟩ (fun p hp => ⟨Nat.ne_of_lt (Nat.lt_succ_of_lt (hres p hp)), Nat.ne_of_lt (hres p hp)⟩) (Nat.succ_ne_self _) (Nat.ne_of_lt hlt) (Nat.ne_of_lt (Nat.lt_succ_of_lt hlt))
  rcases List.mem_cons.mp hp with rfl | hp
  · exact ⟨he, Nat.ne_of_gt (Nat.lt_succ_of_lt hLt), hfr _ (Nat.le_succ _)⟩
  · rcases List.mem_cons.mp hp with rfl | hp
    · exact ⟨hob, Nat.ne_of_gt hLt, hfr _ (Nat.le_refl _)⟩
    · exact kept_news N hk p hp
/-- a turn of enumerate: the pair is made, handed over and taken apart into two names -/
theorem x_enum {xi xv : Str} {pi pv pt : Pos} {x1 : Nat} {name : Str} {scope : Scope} {a : Addr} {cd : Value} {Q : Unit → Shared → Prop} {j : Nat} {N0 : Shared → Prop} (r : Room A j) (F : Fr g L h m) (N : News g L h ((e, enumOf it i old) :: (it, ob) :: rest)) (ho : isLI ob l i) (hr : ∀ p ∈ rest, p.1 ≠ e ∧ p.1 ≠ it) (hei : e ≠ it)
    (hl : h.IsList l vs.toArray) (hx : vs[i]? = some v)
    (q : ∀ ob' old' h' tk ti, Fr g L h' (upd (upd m xi (.int i ti)) xv v) → News g L h' ((e, enumOf it (i + 1) old') :: (it, ob') :: rest) → isLI ob' l (i + 1) → Q () ⟨h', gs, dr, tk, os⟩)
    (hk : scope.kind = .function := by rfl) (hk1 : (envOf name scope L a cd).kindOf xi = some .local := by rfl) (hk2 : (envOf name scope L a cd).kindOf xv = some .local := by rfl) :
    wpAny (model prog w) A (pyNext (.ref e)) (fun r s₁ => match r with
      | none => N0 s₁
      | some v => wpAny (model prog w) A (letOwnedTupleGo (.Tuple [.Name xi pi, .Name xv pv] x1 pt) (.ref e) v) (fun _ s₁' => wpAny (model prog w) A (assign (.Tuple [.Name xi pi, .Name xv pv] x1 pt) (envOf name scope L a cd) v) Q E s₁') E s₁) E ⟨h, gs, dr, t, os⟩ := by
  have he : IsEnum h e it i old := (N _ (.head _)).1
  have hit : h.IsListIter it l i := ⟨ob, (N _ (.tail _ (.head _))).1, ho.1, ho.2⟩
  refine wpAny_pyNext_enum_item (s := ⟨h, gs, dr, t, os⟩) he hit hl (by simpa using hx) hei fun h₁ heo hit₁ hT hsz hk₁ => ?_
  refine wpAny_letOwnedTupleGo_enum (s := ⟨h₁, gs, dr, t + 1, os⟩) heo fun h₂ he₂ hs₂ => ?_
  obtain ⟨ob', hob', hc', hd'⟩ := hit₁
  have z1 := N _ (.head _)
  have z2 := N _ (.tail _ (.head _))
  have hkk : ∀ b o, b ≠ e → b ≠ it → h.get? b = some o → h₂.get? b = some o := fun b o h1 h2 x => (hs₂.2 b h1).trans (hk₁ b o h1 h2 x)
  have F₂ : Fr g L h₂ m := by
    obtain ⟨oL, es, ep, hL, rr⟩ := F.ns
    refine ⟨⟨oL, es, ep, hkk _ _ (Ne.symm z1.2.1) (Ne.symm z2.2.1) hL, rr⟩, fun b o x => hkk b o (fun q => ?_) (fun q => ?_) (F.keep b o x), F.above⟩
    · rw [q] at x; have := z1.2.2; rw [this] at x; cases x
    · rw [q] at x; have := z2.2.2; rw [this] at x; cases x
  have N₂ : News g L h₂ ((e, enumOf it (i + 1) v) :: (it, ob') :: rest) := fun p hp => by
    rcases List.mem_cons.mp hp with rfl | hp
    · exact ⟨he₂, z1.2⟩
    · rcases List.mem_cons.mp hp with rfl | hp
      · exact ⟨(hs₂.2 _ (Ne.symm hei)).trans hob', z2.2⟩
      · have z := N p (.tail _ (.tail _ hp))
        exact ⟨hkk _ _ (hr p hp).1 (hr p hp).2 z.1, z.2⟩
  have hne : h.objs.size ≠ e := fun q => by have := Heap.lt_size z1.1; rw [q] at this; exact Nat.lt_irrefl _ this
  have hT₂ : IsTup h₂ h.objs.size [Value.int i t, v].toArray := ⟨_, (hs₂.2 _ hne).trans hT, rfl, _, rfl⟩
  refine a_tup F₂ N₂ hT₂ r rfl rfl fun h₃ F N => ?_
  refine assignInOrder_cons (wpAny_assign_Name (sto F N (fun h₄ F N => ?_) hk hk1))
  refine assignInOrder_cons (wpAny_assign_Name (sto F N (fun h₅ F N => ?_) hk hk2))
  exact assignInOrder_nil (q ob' v h₅ _ _ F N ⟨hc', hd'⟩)
theorem x_enum0 {Q : Option Value → Shared → Prop} {j : Nat} (r : Room A j) (F : Fr g L h m) (N : News g L h ((e, enumOf it i old) :: (it, ob) :: rest)) (ho : isLI ob l i) (hr : ∀ p ∈ rest, p.1 ≠ e ∧ p.1 ≠ it) (hei : e ≠ it) (hl : h.IsList l vs.toArray) (hx : vs[i]? = none)
    (q : ∀ h', Fr g L h' m → News g L h' rest → Q none ⟨h', gs, dr, t, os⟩) : wpAny (model prog w) A (pyNext (.ref e)) Q E ⟨h, gs, dr, t, os⟩ :=
  wpAny_pyNext_enum_end (s := ⟨h, gs, dr, t, os⟩) r.handled (N _ (.head _)).1 ⟨ob, (N _ (.tail _ (.head _))).1, ho.1, ho.2⟩ hl (by simpa using hx) fun h' hs => by
    have N' := news_perm (rest' := (it, ob) :: rest) N (fun q hq => .tail _ hq)
    obtain ⟨a, b⟩ := led_ext F N' (fun p hp => (hr p hp).2) hs
    exact q h' a b
end
end Mine
namespace Mine
local macro_rules | `(tactic| walk_at "lk") => `(tactic| first | with_reducible exact upd_eq | (refine upd_ne (by rfl) ?_; walk_at "lk") | with_reducible assumption | rfl)
local macro_rules | `(tactic| walk_at "nm") => `(tactic| refine nmL (by with_reducible assumption) (by walk_at "lk") ?_)

def mkDeed (i : Nat) (x : Int) : Deed := ⟨x / 10 % 8, i, 0, x / 5 % 2, x % 5, (x / 320 + 455 * ((i : Int) + 1)) % 4096, x / 80 % 4⟩
def xsOf (ns : List Int) : List Int := ns.take 8 ++ [172, 21, 8, 19, 30]
def deedsOf (ns : List Int) : List Deed := (xsOf ns).mapIdx mkDeed

theorem fdiv_pos {a b : Int} (h : 0 ≤ b) : a.fdiv b = a / b := Int.fdiv_eq_ediv_of_nonneg _ h
theorem fmod_pos {a b : Int} (h : 0 ≤ b) : a.fmod b = a % b := Int.fmod_eq_emod_of_nonneg _ h

section
variable {prog : Program} {w : World} {A : Around} {E : Value → Shared → Prop} {h : Heap} {gs : Array GenState} {dr : Drawn} {t : Nat} {os : OsState} {Q : Value → Shared → Prop} {k : Nat}

/-- list + list, a new list -/
theorem l_add {g : Heap} {L l b : Addr} {m : Str → Option Value} {rest : List (Addr × Obj)} {vs us : List Value} (F : Fr g L h m) (N : News g L h rest) (hl : h.IsList l vs.toArray) (hb : h.IsList b us.toArray) (hz : vs.length + us.length ≤ 1000)
    (q : ∀ D h', Fr g L h' m → News g L h' ((D, listOf (vs ++ us).toArray 0) :: rest) → (∀ p ∈ rest, p.1 ≠ D) → Q (.ref D) ⟨h', gs, dr, t, os⟩) :
    wpAny (model prog w) A (binaryOp .Add (.ref l) (.ref b)) Q E ⟨h, gs, dr, t, os⟩ :=
  add_arrays (s := ⟨h, gs, dr, t, os⟩) F N hl hb (fun h' F' N' => q _ h' F' N' fun p hp => Nat.ne_of_lt (Heap.lt_size (N p hp).1)) (by rw [sizeLine_eq]; simp only [List.size_toArray]; lia)

inductive D2_I1 (gs : Array GenState) (dr : Drawn) (os : OsState) (h : Heap) (L : Addr) (D : Addr) (ns : List Int) (itv : Value) (nn : Nat) (s' : Shared) : Prop
  | mk (h' : Heap) (m : Str → Option Value) (tk : Nat) (e : Addr) (it : Addr) (ob : Obj) (old : Value) (X : Addr) (ws : List Value) (ps : List AD) (tups : List (Addr × Obj)) (n : Nat) (i : Nat) : (s' = ⟨h', gs, dr, tk, os⟩) → (itv = .ref e) → (Fr h L h' m) → (News h L h' ((e, enumOf it ((i : Nat) : Int) old) :: (it, ob) :: (D, listOf (refs ps).toArray n) :: (X, listOf ws.toArray 0) :: tups)) → (isLI ob X i) → ((e ≠ it ∧ D ≠ e ∧ D ≠ it ∧ X ≠ e ∧ X ≠ it ∧ X ≠ D)) → ((∀ q ∈ tups, q.1 ≠ e ∧ q.1 ≠ it ∧ q.1 ≠ D)) → (m (Str.ofString "deeds") = some (.ref D)) → (IntsAre ws (xsOf ns)) → ((∀ p ∈ ps, DIn h tups p)) → (i ≤ (xsOf ns).length) → (nn + i = (xsOf ns).length) → (ps.map (·.2) = (deedsOf ns).take i) → D2_I1 gs dr os h L D ns itv nn s'
inductive D2_I2 (gs : Array GenState) (dr : Drawn) (os : OsState) (h : Heap) (L : Addr) (D : Addr) (ns : List Int) (s' : Shared) : Prop
  | mk (h' : Heap) (m : Str → Option Value) (tk : Nat) (ps : List AD) (tups : List (Addr × Obj)) (n : Nat) : (s' = ⟨h', gs, dr, tk, os⟩) → (Fr h L h' m) → (News h L h' ((D, listOf (refs ps).toArray n) :: tups)) → (m (Str.ofString "deeds") = some (.ref D)) → ((∀ p ∈ ps, DIn h tups p)) → (ps.map (·.2) = deedsOf ns) → D2_I2 gs dr os h L D ns s'
theorem deeds_call {S : Addr} {vs : List Value} {ns : List Int} (G : Gd w h) (hS : h.IsList S vs.toArray) (hi : IntsAre vs ns) (hn : ns.length ≤ 63) (r : Room A (k + 1))
    (hQ : ∀ D ps tups n h' tk, Keep h h' → h.objs.size ≤ h'.objs.size → (∀ q ∈ (D, listOf (refs ps).toArray n) :: tups, h'.get? q.1 = some q.2 ∧ h.get? q.1 = none) → (∀ p ∈ ps, DIn h tups p) → ps.map (·.2) = deedsOf ns → Q (.ref D) ⟨h', gs, dr, tk, os⟩) :
    wpAny (model prog w) A (call (.ref 124) [.ref S]) Q E ⟨h, gs, dr, t, os⟩ := by
  refine callw G (fun _ _ e => e) (Nat.le_refl _) r (f := 124) (binds := [(Str.ofString "script", .ref S)]) rfl rfl rfl (locs rfl) fun L h₁ A' E' tk hL R F hk₁ => ?_
  have N : News h L h₁ [] := News.nil
  have hvl : vs.length = ns.length := hi.length
  have hSl : ∀ {h' m}, Fr h L h' m → h'.IsList S vs.toArray := fun F => let ⟨o, ho, x⟩ := hS; ⟨o, F.keep _ _ ho, x⟩
  refine s_asg (List_ (wpAny_items_nil (n_list F N (by simp) fun D h₂ F N _ _ _ => ?_)))
  refine sto F N fun h₂ F N => ?_
  refine s_forA (D2_I1 gs dr os h L D ns)
    (D2_I2 gs dr os h L D ns)
    (D2_I2 gs dr os h L D ns) ?iter ?turn ?els ?done
  case iter =>
    refine Call_ (nmB F G rfl boot_enumerate (by decide) (callWith_type1 (wpAny_items_cons (wpAny_BinOp (Subscript_ ?_)))))
    walk_at "nm"
    refine wpAny_Slice (evalPart_none_step (evalPart_some_step (e_int (evalPart_none_step ?_))))
    have e0 : slicePick vs.toArray none (some 8) none = (vs.take 8).toArray := by
      have e := kmk_pick_nat vs.toArray (lo := none) (hi := some 8) (a := 0) (b := min 8 vs.length) (by
        simp only [sliceBounds, Option.getD_none, show (1 : Int) > 0 by decide, if_true, if_neg (show ¬ ((8 : Int) < 0) by lia), List.size_toArray]
        congr 1
        congr 1
        lia)
      rw [e]
      simp only [List.drop_zero, Nat.sub_zero, kmk_take_min]
    refine l_slice F N (hSl F) .none (.int _ _) e0 (by lia) fun P h₃ F N hP => ?_
    refine List_ (wpAny_items_cons (e_int (wpAny_items_cons (e_int (wpAny_items_cons (e_int (wpAny_items_cons (e_int (wpAny_items_cons (e_int (wpAny_items_nil (n_list F N (by simp) fun C h₄ F N hC _ _ => ?_))))))))))))
    obtain ⟨us, hus, N⟩ : ∃ us, IntsAre us [172, 21, 8, 19, 30] ∧ News h L h₄ ((C, listOf us.toArray 0) :: (P, listOf (vs.take 8).toArray 0) :: [(D, listOf (refs []).toArray 0)]) := ⟨_, .cons _ _ (.cons _ _ (.cons _ _ (.cons _ _ (.cons _ _ .nil)))), N⟩
    have hul : us.length = 5 := hus.length
    refine l_add (vs := vs.take 8) (us := us) F N ⟨_, (N _ (.tail _ (.head _))).1, rfl, _, rfl⟩ ⟨_, (N _ (.head _)).1, rfl, _, rfl⟩ (by simp; lia) fun X h₅ F N hX => ?_
    refine wpAny_items_nil (i_enum F N ⟨_, (N _ (.head _)).1, rfl, _, rfl⟩ fun e it ob h₆ F N ho hne hei hXi hXe => ?_)
    refine wpAny_pyIter_enum (N _ (.head _)).1 ⟨(xsOf ns).length, h₆, _, _, e, it, ob, .none, X, vs.take 8 ++ us, [], [], 0, 0, rfl, rfl, F, news_perm N ?_, ho, ⟨hei, (hne _ (.tail _ (.tail _ (.tail _ (.head _))))).1, (hne _ (.tail _ (.tail _ (.tail _ (.head _))))).2, hXe, hXi, Ne.symm (hX _ (.tail _ (.tail _ (.head _))))⟩, by simp, by walk_at "lk", (hi.take 8).append hus, by simp, Nat.zero_le _, by lia, by simp⟩
    · intro q hq; simp only [List.mem_cons] at hq ⊢; rcases hq with h | h | h | h | h
      · exact .inl h
      · exact .inr (.inl h)
      · exact .inr (.inr (.inr (.inr (.inr (.inl h)))))
      · exact .inr (.inr (.inl h))
      · simp at h
  case turn =>
    rintro itv nn s' ⟨h', m, tk, e, it, ob, old, X, ws, ps, tups, n, i, rfl, rfl, F, N, ho, ⟨a1, a2, a3, a4, a5, a6⟩, htu, m1, hws, hD, hile, hnn, hpe⟩
    have hXl : h'.IsList X ws.toArray := ⟨_, (N _ (.tail _ (.tail _ (.tail _ (.head _))))).1, rfl, _, rfl⟩
    have hwl : ws.length = (xsOf ns).length := hws.length
    have hxl : (xsOf ns).length ≤ 13 := by unfold xsOf; simp; lia
    have hpl : ps.length = i := by have := congrArg List.length hpe; simp [deedsOf] at this; lia
    have hr : ∀ p ∈ (D, listOf (refs ps).toArray n) :: (X, listOf ws.toArray 0) :: tups, p.1 ≠ e ∧ p.1 ≠ it := by
      intro p hp
      rcases List.mem_cons.mp hp with rfl | hp
      · exact ⟨a2, a3⟩
      · rcases List.mem_cons.mp hp with rfl | hp
        · exact ⟨a4, a5⟩
        · exact ⟨(htu p hp).1, (htu p hp).2.1⟩
    cases nn with
    | zero =>
      have hie : i = (xsOf ns).length := by lia
      refine x_enum0 R F N ho hr a1 hXl (by simp; lia) fun h'' F N => ?_
      refine ⟨_, _, _, ps, tups, n, rfl, F, news_perm N ?_, m1, hD, ?_⟩
      · intro q hq; simp only [List.mem_cons] at hq ⊢; rcases hq with h | h <;> simp [h]
      · rw [hpe, hie]; unfold deedsOf; rw [List.take_of_length_le (by simp)]
    | succ nn =>
      have hix : i < (xsOf ns).length := by lia
      obtain ⟨tx, hx⟩ := hws.get i (xsOf ns)[i] (by simp [hix])
      refine x_enum R F N ho hr a1 hXl hx fun ob' old' h'' tk ti F N ho' => ?_
      refine wpAny_post fun P hP => ?_
      generalize hxv : (xsOf ns)[i] = x at F
      -- bits
      refine s_asg (wpAny_BinOp (wpAny_BinOp (wpAny_BinOp ?_)))
      walk_at "nm"
      refine e_int (o_divE (by decide) (PyProof.noPylong_small (by decide)) (fdiv_pos (by decide)) (wpAny_BinOp (e_int (wpAny_BinOp ?_))))
      walk_at "nm"
      refine e_int (o_add (o_mul (.of_left (by decide +kernel)) (o_add (e_int (o_modE (by decide) (fmod_pos (by decide)) ?_)))))
      refine sto F N fun h₅ F N => ?_
      refine s_expr (MethodCall_ ?_)
      walk_at "nm"
      refine l_meth (N _ (.tail _ (.tail _ (.head _)))).1 PySem.F.slot_list_append PySem.F.type_list_append (c_blt (wpAny_items_cons (Tuple_ (wpAny_items_cons (wpAny_BinOp (wpAny_BinOp ?_))))))
      walk_at "nm"
      refine e_int (o_divE (by decide) (PyProof.noPylong_small (by decide)) (fdiv_pos (by decide)) (e_int (o_modE (by decide) (fmod_pos (by decide)) (wpAny_items_cons ?_))))
      walk_at "nm"
      refine wpAny_items_cons (e_int (wpAny_items_cons (wpAny_BinOp (wpAny_BinOp ?_))))
      walk_at "nm"
      refine e_int (o_divE (by decide) (PyProof.noPylong_small (by decide)) (fdiv_pos (by decide)) (e_int (o_modE (by decide) (fmod_pos (by decide)) (wpAny_items_cons (wpAny_BinOp ?_)))))
      walk_at "nm"
      refine e_int (o_modE (by decide) (fmod_pos (by decide)) (wpAny_items_cons ?_))
      walk_at "nm"
      refine wpAny_items_cons (wpAny_BinOp (wpAny_BinOp ?_))
      walk_at "nm"
      refine e_int (o_divE (by decide) (PyProof.noPylong_small (by decide)) (fdiv_pos (by decide)) (e_int (o_modE (by decide) (fmod_pos (by decide)) (wpAny_items_nil (n_tup F N (by simp) fun T h₆ F N hT _ _ => wpAny_items_nil ?_)))))
      obtain ⟨vals, hvals, N⟩ : ∃ vals, IntsAre vals (mkDeed i x).toL ∧ News h L h₆ ((T, tupOf vals) :: (e, enumOf it (i + 1) old') :: (it, ob') :: (D, listOf (refs ps).toArray n) :: (X, listOf ws.toArray 0) :: tups) := ⟨_, .cons _ _ (.cons _ _ (.cons _ _ (.cons _ _ (.cons _ _ (.cons _ _ (.cons _ _ .nil)))))), N⟩
      have N := news_perm (rest' := (D, listOf (refs ps).toArray n) :: (e, enumOf it (i + 1) old') :: (it, ob') :: (X, listOf ws.toArray 0) :: (T, tupOf vals) :: tups) N (by
        intro q hq; simp only [List.mem_cons] at hq ⊢; rcases hq with h | h | h | h | h | h <;> simp [h])
      have hTD : T ≠ D := fun q => hT _ (.tail _ (.tail _ (.head _))) q.symm
      refine l_app F N (neC (Ne.symm a2) (neC (Ne.symm a3) (neC a6 (neC hTD fun p hp => (htu p hp).2.2)))) (by simp; lia) fun h₇ F N => ?_
      refine s_nil (hP .next _ ⟨nn, by lia, _, _, _, e, it, ob', old', X, ws, ps ++ [(T, mkDeed i x)], (T, tupOf vals) :: tups, n + 1, i + 1, rfl, rfl, F, news_perm N ?_, ho', ⟨a1, a2, a3, a4, a5, a6⟩, ?_, by walk_at "lk", hws, ?_, by lia, by lia, ?_⟩)
      · intro q hq; simp only [List.mem_cons] at hq ⊢
        rcases hq with h | h | h | h | h | h
        · exact .inr (.inl h)
        · exact .inr (.inr (.inl h))
        · left; rw [h]; simp [refs]
        · exact .inr (.inr (.inr (.inl h)))
        · exact .inr (.inr (.inr (.inr (.inl h))))
        · exact .inr (.inr (.inr (.inr (.inr h))))
      · intro q hq
        rcases List.mem_cons.mp hq with rfl | hq
        · exact ⟨fun z => hT _ (.head _) z.symm, fun z => hT _ (.tail _ (.head _)) z.symm, hTD⟩
        · exact htu q hq
      · intro p hp
        rcases List.mem_append.mp hp with hp | hp
        · exact (hD p hp).more
        · rw [List.mem_singleton.mp hp]; exact .new hvals
      · rw [List.map_append, hpe]
        have : (deedsOf ns)[i]? = some (mkDeed i x) := by simp [deedsOf, hix, hxv]
        rw [List.take_succ, this]; rfl
  case els =>
    rintro s' ⟨h', m, tk, ps, tups, n, rfl, F, N, m1, hd, hp⟩
    exact s_nil ⟨rfl, _, _, _, ps, tups, n, rfl, F, N, m1, hd, hp⟩
  case done =>
    rintro s' ⟨h', m, tk, ps, tups, n, rfl, F, N, m1, hd, hp⟩
    refine s_ret ?_
    walk_at "nm"
    exact hQ D ps tups n _ _ F.keep (frame_size F hL) (fun q hq => ⟨(N q hq).1, (N q hq).2.2⟩) hd hp
end
end Mine
namespace Mine
local macro_rules | `(tactic| walk_at "lk") => `(tactic| first | with_reducible exact upd_eq | (refine upd_ne (by rfl) ?_; walk_at "lk") | with_reducible assumption | rfl)
local macro_rules | `(tactic| walk_at "nm") => `(tactic| refine nmL (by with_reducible assumption) (by walk_at "lk") ?_)
/-! tuple iterators -/
abbrev isTI (o : Obj) (l : Addr) (i : Nat) : Prop := o.cls = .type "tuple_iterator" ∧ o.data = .fields #[.ref l, .int i 0]
section
variable {prog : Program} {w : World} {A : Around} {E : Value → Shared → Prop} {s : Shared}
theorem nextOf_tup_item {it l : Addr} {i : Nat} {items} {x : Value} {Q : Value → Shared → Prop} (hit : s.heap.IsTupleIter it l i)
    (hl : s.heap.IsTuple l items) (hx : items[i]? = some x)
    (hQ : ∀ h', h'.IsTupleIter it l (i + 1) → Heap.SameBut it s.heap h' → Q x { s with heap := h' }) :
    wpAny (model prog w) A (Builtin.SmallTypes.nextOf (.ref it)) Q E s := by
  obtain ⟨o, ho, hc, hd⟩ := id hit
  obtain ⟨ol, hol, _, nl, hdl⟩ := hl
  unfold Builtin.SmallTypes.nextOf
  refine wpAny_bind (wpAny_callSpecial?_slot (name := Str.ofString "__next__") hit.typeIs PySem.F.slot_tuple_iterator_next
    (wpAny_call_entry PySem.F.slot_tuple_iterator_next hit.typeIs PySem.F.entry_tuple_iterator_next ?_ (PySem.F.args_tuple_iterator_next_1 _)))
  show wpAny _ _ (field (.ref it) 0 >>= _) _ _ s
  refine wpAny_bind (wpAny_field ho hd (x := .ref l) rfl ?_)
  show wpAny _ _ (if (Value.ref l == Value.none) = true then _ else _) _ _ s
  rw [if_neg (show ¬ ((Value.ref l == Value.none) = true) from Bool.false_ne_true)]
  show wpAny _ _ (field (.ref it) 1 >>= _) _ _ s
  refine wpAny_bind (wpAny_field ho hd (x := .int i 0) rfl ?_)
  show wpAny _ _ (seqItems? (.ref l) >>= _) _ _ s
  refine wpAny_bind (wpAny_seqItems hol hdl ?_)
  simp only [Int.toNat_natCast, hx]
  refine wpAny_bind (wpAny_setField ho hd (by simp) (wpAny_pure ⟨x, rfl, wpAny_pure (hQ _ ?_ (Heap.SameBut.update ..))⟩))
  exact ⟨_, Heap.get?_update_self _ ho (Obj.isFreed_of_fields (Obj.data_mapFields hd _)), (Obj.cls_mapFields ..).trans hc, by
    rw [Obj.data_mapFields hd]; simp [rawInt]⟩
theorem nextOf_tup_end {it l : Addr} {i : Nat} {items} {Q : Value → Shared → Prop} (hh : A.handled = none)
    (hit : s.heap.IsTupleIter it l i) (hl : s.heap.IsTuple l items) (hx : items[i]? = none)
    (hE : ∀ h' e, Heap.ExtBut it s.heap h' → (∃ o, h'.get? e = some o ∧ o.cls = .type "StopIteration") → E (.ref e) { s with heap := h' }) :
    wpAny (model prog w) A (Builtin.SmallTypes.nextOf (.ref it)) Q E s := by
  obtain ⟨o, ho, hc, hd⟩ := id hit
  obtain ⟨ol, hol, _, nl, hdl⟩ := hl
  unfold Builtin.SmallTypes.nextOf
  refine wpAny_bind (wpAny_callSpecial?_slot (name := Str.ofString "__next__") hit.typeIs PySem.F.slot_tuple_iterator_next
    (wpAny_call_entry PySem.F.slot_tuple_iterator_next hit.typeIs PySem.F.entry_tuple_iterator_next ?_ (PySem.F.args_tuple_iterator_next_1 _)))
  show wpAny _ _ (field (.ref it) 0 >>= _) _ _ s
  refine wpAny_bind (wpAny_field ho hd (x := .ref l) rfl ?_)
  show wpAny _ _ (if (Value.ref l == Value.none) = true then _ else _) _ _ s
  rw [if_neg (show ¬ ((Value.ref l == Value.none) = true) from Bool.false_ne_true)]
  show wpAny _ _ (field (.ref it) 1 >>= _) _ _ s
  refine wpAny_bind (wpAny_field ho hd (x := .int i 0) rfl ?_)
  show wpAny _ _ (seqItems? (.ref l) >>= _) _ _ s
  refine wpAny_bind (wpAny_seqItems hol hdl ?_)
  simp only [Int.toNat_natCast, hx]
  refine wpAny_bind (wpAny_rule (wpAny_bind (wpAny_setField ho hd (by simp) ?_)))
  show wpAny _ _ (newExc (.type "StopIteration") [] >>= _) _ _ _
  refine wpAny_bind ?_
  simp only [newExc, newTuple]
  refine wpAny_bind (wpAny_newObj_type ?_ (by size_fits))
  refine wpAny_bind (m := firstArgMember _ _) (wpAny_of_eq (a := Value.none) (by first | rfl | (simp only [firstArgMember]; rfl)) ?_)
  refine wpAny_newObj_type ?_ (by size_fits)
  simp only [raiseNew]
  refine wpAny_bind (wpAny_handled ?_)
  first | rw [show A.in1.handled = none from hh] | rw [hh]
  refine wpAny_bind (wpAny_pure (wpAny_throw ?_))
  exact hE _ _ (((Heap.SameBut.update ..).extBut.push _).push _) ⟨_, Heap.get?_push_size _ rfl, rfl⟩
theorem draws_tup (hh : A.handled = none) (it l : Addr) (hne : l ≠ it) (items : Array Value) :
    Draws prog w A it [it, l] items.size (fun i v => items[i]? = some v) (fun i h => h.IsTupleIter it l i ∧ h.IsTuple l items) where
  live := fun _ _ st => let ⟨o, ho, _⟩ := st.1; ⟨o, ho⟩
  frame := fun _ _ _ st hk => ⟨let ⟨o, ho, r⟩ := st.1; ⟨o, hk it (by simp) o ho, r⟩, let ⟨o, ho, r⟩ := st.2; ⟨o, hk l (by simp) o ho, r⟩⟩
  item := fun i s Q E hi st hQ => by
    refine nextOf_tup_item st.1 st.2 (x := items[i]) (by simp [hi]) fun h' hit' hs' => ?_
    exact hQ _ h' s.toks (by simp [hi]) ⟨hit', st.2.extBut hs'.extBut hne⟩ hs'
  done := fun s Q E st hE => nextOf_tup_end hh st.1 st.2 (by simp) hE

open AutoSeq1 (wpAny_loadPart') in
theorem meets_enumerate_newT (l : Addr) (items : Array Value) (n : Nat) (dct : Option Addr) (sl : Array (Option Value)) :
    Meets (Builtin.«enumerate.__new__» ⟨[.type "enumerate", .ref l], []⟩) (fun _ R s => s.heap.get? l = some { cls := .type "tuple", dict := dct, data := .seq items n, slots := sl } ∧
      R (.ok (.ret (.ref (s.heap.push { cls := .type "tuple_iterator", data := .fields #[.ref l, .int 0 0] }).objs.size)))
        { s with heap := (s.heap.push { cls := .type "tuple_iterator", data := .fields #[.ref l, .int 0 0] }).push { cls := .type "enumerate", data := .fields #[.none, .bool false, .ref s.heap.objs.size, rawInt 0, .none, .none] } }) :=
  .of_wp fun prog w A R s h => by
    obtain ⟨hp, g, d, tk, os⟩ := s; obtain ⟨hl, h⟩ := h
    have hsub := sub_enumerate
    have hL : Heap.IsTuple (Shared.heap ⟨hp, g, d, tk, os⟩) l items := ⟨_, hl, rfl, n, rfl⟩
    wp_walk using wpAny_loadPart' hl
    refine wpAny_stack_any fun st => wpAny_pure ?_
    split
    · rename_i c _ _ _ _ _
      cases (c == Value.type "enumerate")
      · wp_walk using wpAny_loadPart' hl, wpAny_pyIter_tuple hL
        exact ⟨_, rfl, h⟩
      · wp_walk using wpAny_loadPart' hl, wpAny_pyIter_tuple hL
        exact ⟨_, rfl, h⟩
    · wp_walk using wpAny_loadPart' hl, wpAny_pyIter_tuple hL
      exact ⟨_, rfl, h⟩
theorem call_enumerate_tup {l : Addr} {items : Array Value} {Q : Value → Shared → Prop} (hL : s.heap.IsTuple l items)
    (h : ∀ h', IsEnum h' (s.heap.objs.size + 1) s.heap.objs.size 0 .none → h'.IsTupleIter s.heap.objs.size l 0 → h'.objs.size = s.heap.objs.size + 2 →
      (∀ b o, s.heap.get? b = some o → h'.get? b = some o) → Q (.ref (s.heap.objs.size + 1)) { s with heap := h' }) :
    wpAny (model prog w) A (call (.type "enumerate") [.ref l]) Q E s := by
  obtain ⟨⟨c, dct, dt, sl⟩, hl, hc, n, hd⟩ := hL
  replace hc : c = .type "tuple" := hc
  replace hd : dt = .seq items n := hd
  subst hc hd
  refine callType_new PySem.F.called_enumerate (by decide) (PySem.F.typeCall_enumerate_1 _) (PySem.F.newCall_enumerate_1 _) (fun obj => PySem.F.args_object_init_2 obj _) PySem.F.entry_enumerate_new
    (meets_enumerate_newT l items n dct sl) ⟨hl, ?_⟩
  have hz : (s.heap.push { cls := .type "tuple_iterator", data := .fields #[.ref l, .int 0 0] }).objs.size = s.heap.objs.size + 1 := Heap.size_push ..
  show _ ∧ _
  rw [hz]
  have he : IsEnum ((s.heap.push { cls := .type "tuple_iterator", data := .fields #[.ref l, .int 0 0] }).push
      { cls := .type "enumerate", data := .fields #[.none, .bool false, .ref s.heap.objs.size, rawInt 0, .none, .none] }) (s.heap.objs.size + 1) s.heap.objs.size 0 .none := by
    have := Heap.get?_push_size (s.heap.push { cls := .type "tuple_iterator", data := .fields #[.ref l, .int 0 0] })
      (o := { cls := .type "enumerate", data := .fields #[.none, .bool false, .ref s.heap.objs.size, rawInt 0, .none, .none] }) rfl
    rw [hz] at this; exact this
  refine ⟨⟨_, he, rfl⟩, h _ he ⟨_, Heap.get?_push_of_some _ (Heap.get?_push_size _ rfl), rfl, rfl⟩ (by rw [Heap.size_push, hz]) fun b o x => Heap.get?_push_of_some _ (Heap.get?_push_of_some _ x)⟩
theorem letOwned_tupiter {elts : List Expr} {x1} {pos : Pos} {I l T : Addr} {i : Nat} {Q : Unit → Shared → Prop} (hit : s.heap.IsTupleIter I l i) (hQ : Q () s) :
    wpAny (model prog w) A (letOwnedTupleGo (.Tuple elts x1 pos) (.ref I) (.ref T)) Q E s := by
  obtain ⟨o, ho, hc, hd⟩ := hit
  unfold letOwnedTupleGo
  refine wpAny_bind (wpAny_load ho ?_)
  rw [hc, hd]
  show wpAny _ A (if (["enumerate", "zip", "dict_itemiterator", "dict_reverseitemiterator", "odict_iterator", "itertools.zip_longest", "itertools.pairwise"].contains "tuple_iterator" &&
      (#[.ref l, .int i 0] : Array Value)[0]? == some (rawInt T)) = true then _ else _) Q E s
  rw [if_neg (by
    intro h
    rw [show (["enumerate", "zip", "dict_itemiterator", "dict_reverseitemiterator", "odict_iterator", "itertools.zip_longest", "itertools.pairwise"].contains "tuple_iterator") = false from by decide, Bool.false_and] at h
    cases h)]
  exact wpAny_pure hQ
end
section
variable {prog : Program} {w : World} {A : Around} {E : Value → Shared → Prop} {h : Heap} {gs : Array GenState} {dr : Drawn} {t : Nat} {os : OsState} {g : Heap} {L l e it I : Addr} {m : Str → Option Value} {rest : List (Addr × Obj)} {vs : List Value} {i : Nat} {ob : Obj} {v old : Value}
theorem i_enumT {Q : Value → Shared → Prop} (F : Fr g L h m) (N : News g L h rest) (hl : g.IsTuple l vs.toArray)
    (q : ∀ e it ob h', Fr g L h' m → News g L h' ((e, enumOf it 0 .none) :: (it, ob) :: rest) → isTI ob l 0 → (∀ p ∈ rest, p.1 ≠ e ∧ p.1 ≠ it) → e ≠ it → Q (.ref e) ⟨h', gs, dr, t, os⟩) : wpAny (model prog w) A (call (.type "enumerate") [.ref l]) Q E ⟨h, gs, dr, t, os⟩ := by
  obtain ⟨ol, hol, hl'⟩ := hl
  refine call_enumerate_tup (s := ⟨h, gs, dr, t, os⟩) ⟨ol, F.keep _ _ hol, hl'⟩ fun h' he hit hsz hk => ?_
  obtain ⟨ob, hob, hc, hd⟩ := hit
  have hLt : @LT.lt Nat _ L h.objs.size := F.ns.lt
  have hfr : ∀ a : Nat, h.objs.size ≤ a → g.get? a = none := fun a ha => Heap.get?_none_of_le (Nat.le_trans F.above (Nat.le_trans (Nat.le_of_lt hLt) ha))
  have hres : ∀ p ∈ rest, p.1 < h.objs.size := fun p hp => Heap.lt_size (N p hp).1
  refine q (h.objs.size + 1) h.objs.size ob h' (kept_fr F hk) (fun p hp => ?_) ⟨hc, hd⟩ (fun p hp => ⟨Nat.ne_of_lt (Nat.lt_succ_of_lt (hres p hp)), Nat.ne_of_lt (hres p hp)⟩) (Nat.succ_ne_self _)
  rcases List.mem_cons.mp hp with rfl | hp
  · exact ⟨he, Nat.ne_of_gt (Nat.lt_succ_of_lt hLt), hfr _ (Nat.le_succ _)⟩
  · rcases List.mem_cons.mp hp with rfl | hp
    · exact ⟨hob, Nat.ne_of_gt hLt, hfr _ (Nat.le_refl _)⟩
    · exact kept_news N hk p hp
theorem x_enumT {xi xv : Str} {pi pv pt : Pos} {x1 : Nat} {name : Str} {scope : Scope} {a : Addr} {cd : Value} {Q : Unit → Shared → Prop} {j : Nat} {N0 : Shared → Prop} (r : Room A j) (F : Fr g L h m) (N : News g L h ((e, enumOf it i old) :: (it, ob) :: rest)) (ho : isTI ob l i) (hr : ∀ p ∈ rest, p.1 ≠ e ∧ p.1 ≠ it) (hei : e ≠ it)
    (hl : g.IsTuple l vs.toArray) (hx : vs[i]? = some v)
    (q : ∀ ob' old' h' tk ti, Fr g L h' (upd (upd m xi (.int i ti)) xv v) → News g L h' ((e, enumOf it (i + 1) old') :: (it, ob') :: rest) → isTI ob' l (i + 1) → Q () ⟨h', gs, dr, tk, os⟩)
    (hk : scope.kind = .function := by rfl) (hk1 : (envOf name scope L a cd).kindOf xi = some .local := by rfl) (hk2 : (envOf name scope L a cd).kindOf xv = some .local := by rfl) :
    wpAny (model prog w) A (pyNext (.ref e)) (fun r s₁ => match r with
      | none => N0 s₁
      | some v => wpAny (model prog w) A (letOwnedTupleGo (.Tuple [.Name xi pi, .Name xv pv] x1 pt) (.ref e) v) (fun _ s₁' => wpAny (model prog w) A (assign (.Tuple [.Name xi pi, .Name xv pv] x1 pt) (envOf name scope L a cd) v) Q E s₁') E s₁) E ⟨h, gs, dr, t, os⟩ := by
  have z1 := N _ (.head _)
  have z2 := N _ (.tail _ (.head _))
  have hlh : h.IsTuple l vs.toArray := let ⟨o, ho, x⟩ := hl; ⟨o, F.keep _ _ ho, x⟩
  have hlne : ∀ b, g.get? b = none → l ≠ b := fun b hb q => by obtain ⟨o, ho, _⟩ := hl; rw [q, hb] at ho; cases ho
  have he : IsEnum h e it i old := z1.1
  have hit : h.IsTupleIter it l i := ⟨ob, z2.1, ho.1, ho.2⟩
  refine wpAny_pyNext_enum_itemD (s := ⟨h, gs, dr, t, os⟩) (draws_tup (prog := prog) (w := w) (A := A.in1) r.handled it l (hlne _ z2.2.2) vs.toArray) he ⟨hit, hlh⟩ (by
    have := (List.getElem?_eq_some_iff.mp hx).1; simpa using this) hei (by
    intro hm; rcases List.mem_cons.mp hm with q | q
    · exact hei q
    · exact hlne _ z1.2.2 (List.mem_singleton.mp q).symm) fun x h₁ tk hP heo hit₁ hT hsz hk₁ => ?_
  have hxv : x = v := by
    have : vs[i]? = some x := by simpa using hP
    rw [hx] at this; exact (Option.some.inj this).symm
  subst hxv
  refine wpAny_letOwnedTupleGo_enum (s := ⟨h₁, gs, dr, tk + 1, os⟩) heo fun h₂ he₂ hs₂ => ?_
  obtain ⟨⟨ob', hob', hc', hd'⟩, _⟩ := hit₁
  have hkk : ∀ b o, b ≠ e → b ≠ it → h.get? b = some o → h₂.get? b = some o := fun b o h1 h2 x => (hs₂.2 b h1).trans (hk₁ b o h1 h2 x)
  have F₂ : Fr g L h₂ m := by
    obtain ⟨oL, es, ep, hL, rr⟩ := F.ns
    refine ⟨⟨oL, es, ep, hkk _ _ (Ne.symm z1.2.1) (Ne.symm z2.2.1) hL, rr⟩, fun b o x => hkk b o (fun q => ?_) (fun q => ?_) (F.keep b o x), F.above⟩
    · rw [q] at x; have := z1.2.2; rw [this] at x; cases x
    · rw [q] at x; have := z2.2.2; rw [this] at x; cases x
  have N₂ : News g L h₂ ((e, enumOf it (i + 1) x) :: (it, ob') :: rest) := fun p hp => by
    rcases List.mem_cons.mp hp with rfl | hp
    · exact ⟨he₂, z1.2⟩
    · rcases List.mem_cons.mp hp with rfl | hp
      · exact ⟨(hs₂.2 _ (Ne.symm hei)).trans hob', z2.2⟩
      · have z := N p (.tail _ (.tail _ hp))
        exact ⟨hkk _ _ (hr p hp).1 (hr p hp).2 z.1, z.2⟩
  have hne : h.objs.size ≠ e := fun q => by have := Heap.lt_size z1.1; rw [q] at this; exact Nat.lt_irrefl _ this
  have hT₂ : IsTup h₂ h.objs.size [Value.int i tk, x].toArray := ⟨_, (hs₂.2 _ hne).trans hT, rfl, _, rfl⟩
  refine a_tup F₂ N₂ hT₂ r rfl rfl fun h₃ F N => ?_
  refine assignInOrder_cons (wpAny_assign_Name (sto F N (fun h₄ F N => ?_) hk hk1))
  refine assignInOrder_cons (wpAny_assign_Name (sto F N (fun h₅ F N => ?_) hk hk2))
  exact assignInOrder_nil (q ob' x h₅ _ _ F N ⟨hc', hd'⟩)
theorem x_enumT0 {Q : Option Value → Shared → Prop} {j : Nat} (r : Room A j) (F : Fr g L h m) (N : News g L h ((e, enumOf it i old) :: (it, ob) :: rest)) (ho : isTI ob l vs.length) (hr : ∀ p ∈ rest, p.1 ≠ e ∧ p.1 ≠ it) (hei : e ≠ it) (hl : g.IsTuple l vs.toArray)
    (q : ∀ h', Fr g L h' m → News g L h' rest → Q none ⟨h', gs, dr, t, os⟩) : wpAny (model prog w) A (pyNext (.ref e)) Q E ⟨h, gs, dr, t, os⟩ := by
  have z1 := N _ (.head _)
  have z2 := N _ (.tail _ (.head _))
  have hlh : h.IsTuple l vs.toArray := let ⟨o, ho, x⟩ := hl; ⟨o, F.keep _ _ ho, x⟩
  have hlne : ∀ b, g.get? b = none → l ≠ b := fun b hb q => by obtain ⟨o, ho, _⟩ := hl; rw [q, hb] at ho; cases ho
  refine wpAny_pyNext_enum_endD (s := ⟨h, gs, dr, t, os⟩) (draws_tup (prog := prog) (w := w) (A := A.in1) r.handled it l (hlne _ z2.2.2) vs.toArray) (N _ (.head _)).1 ⟨⟨ob, z2.1, ho.1, by simpa using ho.2⟩, hlh⟩ fun h' hs => ?_
  have N' := news_perm (rest' := (it, ob) :: rest) N (fun q hq => .tail _ hq)
  obtain ⟨a, b⟩ := led_ext F N' (fun p hp => (hr p hp).2) hs
  exact q h' a b
theorem i_tup {Q : Value → Shared → Prop} (F : Fr g L h m) (N : News g L h rest) (hl : g.IsTuple l vs.toArray)
    (q : ∀ I ob h', Fr g L h' m → News g L h' ((I, ob) :: rest) → isTI ob l 0 → (∀ p ∈ rest, p.1 ≠ I) → Q (.ref I) ⟨h', gs, dr, t, os⟩) : wpAny (model prog w) A (pyIter (.ref l)) Q E ⟨h, gs, dr, t, os⟩ := by
  obtain ⟨o, ho, x⟩ := hl
  refine wpAny_pyIter_tuple (s := ⟨h, gs, dr, t, os⟩) ⟨o, F.keep _ _ ho, x⟩ ?_
  obtain ⟨a, b, c, -, -⟩ := n_obj (ob := { cls := .type "tuple_iterator", data := .fields #[.ref l, .int 0 0] }) F N rfl
  exact q _ _ _ a b ⟨rfl, rfl⟩ c
theorem x_tup {Q : Option Value → Shared → Prop} (F : Fr g L h m) (N : News g L h ((I, ob) :: rest)) (ho : isTI ob l i) (hr : ∀ p ∈ rest, p.1 ≠ I) (hl : g.IsTuple l vs.toArray) (hx : vs[i]? = some v)
    (q : ∀ ob' h', Fr g L h' m → News g L h' ((I, ob') :: rest) → isTI ob' l (i + 1) → Q (some v) ⟨h', gs, dr, t, os⟩) : wpAny (model prog w) A (pyNext (.ref I)) Q E ⟨h, gs, dr, t, os⟩ := by
  obtain ⟨o, ho', x⟩ := hl
  exact wpAny_pyNext_tuple_item (s := ⟨h, gs, dr, t, os⟩) ⟨ob, (N _ (.head _)).1, ho.1, ho.2⟩ ⟨o, F.keep _ _ ho', x⟩ (by simpa using hx) fun h' hi hs => by
    obtain ⟨o', e1, e2, e3⟩ := hi
    obtain ⟨a, b⟩ := led_same F N hr hs e1
    exact q o' h' a b ⟨e2, e3⟩
theorem x_tup0 {Q : Option Value → Shared → Prop} {j : Nat} (r : Room A j) (F : Fr g L h m) (N : News g L h ((I, ob) :: rest)) (ho : isTI ob l i) (hr : ∀ p ∈ rest, p.1 ≠ I) (hl : g.IsTuple l vs.toArray) (hx : vs[i]? = none)
    (q : ∀ h', Fr g L h' m → News g L h' rest → Q none ⟨h', gs, dr, t, os⟩) : wpAny (model prog w) A (pyNext (.ref I)) Q E ⟨h, gs, dr, t, os⟩ := by
  obtain ⟨o, ho', x⟩ := hl
  exact wpAny_pyNext_tuple_end (s := ⟨h, gs, dr, t, os⟩) r.handled ⟨ob, (N _ (.head _)).1, ho.1, ho.2⟩ ⟨o, F.keep _ _ ho', x⟩ (by simpa using hx) fun h' hs => by
    obtain ⟨a, b⟩ := led_ext F N hr hs
    exact q h' a b
end
end Mine
namespace Mine
local macro_rules | `(tactic| walk_at "lk") => `(tactic| first | with_reducible exact upd_eq | (refine upd_ne (by rfl) ?_; walk_at "lk") | with_reducible assumption | rfl)
local macro_rules | `(tactic| walk_at "nm") => `(tactic| refine nmL (by with_reducible assumption) (by walk_at "lk") ?_)
def ftab : List (Addr × List (Addr × Nat × Str)) :=
  [(85, [(78, 40960, Str.ofString "l"), (79, 49152, Str.ofString "s"), (80, 32768, Str.ofString "-"), (81, 24576, Str.ofString "b"), (82, 16384, Str.ofString "d"), (83, 8192, Str.ofString "c"), (84, 4096, Str.ofString "p")]),
   (87, [(86, 256, Str.ofString "r")]), (89, [(88, 128, Str.ofString "w")]), (93, [(90, 2112, Str.ofString "s"), (91, 2048, Str.ofString "S"), (92, 64, Str.ofString "x")]),
   (95, [(94, 32, Str.ofString "r")]), (97, [(96, 16, Str.ofString "w")]), (101, [(98, 1032, Str.ofString "s"), (99, 1024, Str.ofString "S"), (100, 8, Str.ofString "x")]),
   (103, [(102, 4, Str.ofString "r")]), (105, [(104, 2, Str.ofString "w")]), (109, [(106, 513, Str.ofString "t"), (107, 512, Str.ofString "T"), (108, 1, Str.ofString "x")])]
theorem tab_all {w : World} {g : Heap} (G : Gd w g) : g.IsTuple 110 (ftab.map (fun p => Value.ref p.1)).toArray := ⟨_, G.K _ _ rfl, rfl, _, rfl⟩
theorem tab_rows {w : World} {g : Heap} (G : Gd w g) : ∀ p ∈ ftab, g.IsTuple p.1 (p.2.map (fun q => Value.ref q.1)).toArray ∧ ∀ q ∈ p.2, ∃ t u, IsTup g q.1 [Value.int (q.2.1 : Int) t, .str q.2.2 u].toArray := by
  unfold ftab
  refine List.forall_mem_cons.mpr ⟨⟨⟨_, G.K _ _ rfl, rfl, _, rfl⟩, ?_⟩, ?_⟩
  · refine List.forall_mem_cons.mpr ⟨⟨_, _, _, G.K _ _ rfl, rfl, _, rfl⟩, List.forall_mem_cons.mpr ⟨⟨_, _, _, G.K _ _ rfl, rfl, _, rfl⟩, List.forall_mem_cons.mpr ⟨⟨_, _, _, G.K _ _ rfl, rfl, _, rfl⟩, List.forall_mem_cons.mpr ⟨⟨_, _, _, G.K _ _ rfl, rfl, _, rfl⟩, List.forall_mem_cons.mpr ⟨⟨_, _, _, G.K _ _ rfl, rfl, _, rfl⟩, List.forall_mem_cons.mpr ⟨⟨_, _, _, G.K _ _ rfl, rfl, _, rfl⟩, List.forall_mem_cons.mpr ⟨⟨_, _, _, G.K _ _ rfl, rfl, _, rfl⟩, fun _ h => nomatch h⟩⟩⟩⟩⟩⟩⟩
  refine List.forall_mem_cons.mpr ⟨⟨⟨_, G.K _ _ rfl, rfl, _, rfl⟩, ?_⟩, ?_⟩
  · exact List.forall_mem_cons.mpr ⟨⟨_, _, _, G.K _ _ rfl, rfl, _, rfl⟩, fun _ h => nomatch h⟩
  refine List.forall_mem_cons.mpr ⟨⟨⟨_, G.K _ _ rfl, rfl, _, rfl⟩, ?_⟩, ?_⟩
  · exact List.forall_mem_cons.mpr ⟨⟨_, _, _, G.K _ _ rfl, rfl, _, rfl⟩, fun _ h => nomatch h⟩
  refine List.forall_mem_cons.mpr ⟨⟨⟨_, G.K _ _ rfl, rfl, _, rfl⟩, ?_⟩, ?_⟩
  · exact List.forall_mem_cons.mpr ⟨⟨_, _, _, G.K _ _ rfl, rfl, _, rfl⟩, List.forall_mem_cons.mpr ⟨⟨_, _, _, G.K _ _ rfl, rfl, _, rfl⟩, List.forall_mem_cons.mpr ⟨⟨_, _, _, G.K _ _ rfl, rfl, _, rfl⟩, fun _ h => nomatch h⟩⟩⟩
  refine List.forall_mem_cons.mpr ⟨⟨⟨_, G.K _ _ rfl, rfl, _, rfl⟩, ?_⟩, ?_⟩
  · exact List.forall_mem_cons.mpr ⟨⟨_, _, _, G.K _ _ rfl, rfl, _, rfl⟩, fun _ h => nomatch h⟩
  refine List.forall_mem_cons.mpr ⟨⟨⟨_, G.K _ _ rfl, rfl, _, rfl⟩, ?_⟩, ?_⟩
  · exact List.forall_mem_cons.mpr ⟨⟨_, _, _, G.K _ _ rfl, rfl, _, rfl⟩, fun _ h => nomatch h⟩
  refine List.forall_mem_cons.mpr ⟨⟨⟨_, G.K _ _ rfl, rfl, _, rfl⟩, ?_⟩, ?_⟩
  · exact List.forall_mem_cons.mpr ⟨⟨_, _, _, G.K _ _ rfl, rfl, _, rfl⟩, List.forall_mem_cons.mpr ⟨⟨_, _, _, G.K _ _ rfl, rfl, _, rfl⟩, List.forall_mem_cons.mpr ⟨⟨_, _, _, G.K _ _ rfl, rfl, _, rfl⟩, fun _ h => nomatch h⟩⟩⟩
  refine List.forall_mem_cons.mpr ⟨⟨⟨_, G.K _ _ rfl, rfl, _, rfl⟩, ?_⟩, ?_⟩
  · exact List.forall_mem_cons.mpr ⟨⟨_, _, _, G.K _ _ rfl, rfl, _, rfl⟩, fun _ h => nomatch h⟩
  refine List.forall_mem_cons.mpr ⟨⟨⟨_, G.K _ _ rfl, rfl, _, rfl⟩, ?_⟩, ?_⟩
  · exact List.forall_mem_cons.mpr ⟨⟨_, _, _, G.K _ _ rfl, rfl, _, rfl⟩, fun _ h => nomatch h⟩
  refine List.forall_mem_cons.mpr ⟨⟨⟨_, G.K _ _ rfl, rfl, _, rfl⟩, ?_⟩, ?_⟩
  · exact List.forall_mem_cons.mpr ⟨⟨_, _, _, G.K _ _ rfl, rfl, _, rfl⟩, List.forall_mem_cons.mpr ⟨⟨_, _, _, G.K _ _ rfl, rfl, _, rfl⟩, List.forall_mem_cons.mpr ⟨⟨_, _, _, G.K _ _ rfl, rfl, _, rfl⟩, fun _ h => nomatch h⟩⟩⟩
  exact fun _ h => nomatch h

def hit (i n b : Nat) : Bool := if i = 0 then n &&& 61440 == b else n &&& b == b
def pickC (i n : Nat) (row : List (Addr × Nat × Str)) : Str := match row.find? (fun q => hit i n q.2.1) with
  | some q => q.2.2
  | none => if i = 0 then Str.ofString "?" else Str.ofString "-"
def fileRows (n : Nat) : List Str := ftab.mapIdx (fun i p => pickC i n p.2)
def fileText (n : Nat) : Str := Txt.join (Str.ofString "") (fileRows n)

theorem band_nat (a b : Nat) : Builtin.bitAnd (a : Int) (b : Int) = ((a &&& b : Nat) : Int) := by rw [bitAnd_pp (by lia) (by lia)]; simp
section
variable {prog : Program} {w : World} {A : Around} {E : Value → Shared → Prop} {h : Heap} {gs : Array GenState} {dr : Drawn} {t : Nat} {os : OsState} {Q : Value → Shared → Prop} {k : Nat}
theorem imode_call {n : Nat} {t1 : Tok} (G : Gd w h) (r : Room A (k + 1)) (hQ : ∀ h' tk u, Keep h h' → h.objs.size ≤ h'.objs.size → Q (.int ((n &&& 4095 : Nat) : Int) u) ⟨h', gs, dr, tk, os⟩) :
    wpAny (model prog w) A (call (.ref 70) [.int n t1]) Q E ⟨h, gs, dr, t, os⟩ := by
  refine callw G (fun _ _ e => e) (Nat.le_refl _) r (f := 70) (binds := [(Str.ofString "mode", .int n t1)]) rfl rfl rfl (locs rfl) fun L h₁ A' E' tk hL R F hk₁ => ?_
  refine s_ret (wpAny_BinOp ?_)
  walk_at "nm"
  refine e_int (o_andE (c := ((n &&& 4095 : Nat) : Int)) (band_nat n 4095) ?_)
  exact hQ _ _ _ F.keep (frame_size F hL)
theorem ifmt_call {n : Nat} {t1 : Tok} (G : Gd w h) (r : Room A (k + 1)) (hQ : ∀ h' tk u, Keep h h' → h.objs.size ≤ h'.objs.size → Q (.int ((n &&& 61440 : Nat) : Int) u) ⟨h', gs, dr, tk, os⟩) :
    wpAny (model prog w) A (call (.ref 77) [.int n t1]) Q E ⟨h, gs, dr, t, os⟩ := by
  refine callw G (fun _ _ e => e) (Nat.le_refl _) r (f := 77) (binds := [(Str.ofString "mode", .int n t1)]) rfl rfl rfl (locs rfl) fun L h₁ A' E' tk hL R F hk₁ => ?_
  refine s_ret (wpAny_BinOp ?_)
  walk_at "nm"
  refine e_int (o_andE (c := ((n &&& 61440 : Nat) : Int)) (band_nat n 61440) ?_)
  exact hQ _ _ _ F.keep (frame_size F hL)
end
end Mine
namespace Mine
local macro_rules | `(tactic| walk_at "lk") => `(tactic| first | with_reducible exact upd_eq | (refine upd_ne (by rfl) ?_; walk_at "lk") | with_reducible assumption | rfl)
local macro_rules | `(tactic| walk_at "nm") => `(tactic| refine nmL (by with_reducible assumption) (by walk_at "lk") ?_)
section
variable {prog : Program} {w : World} {A : Around} {E : Value → Shared → Prop} {h : Heap} {gs : Array GenState} {dr : Drawn} {t : Nat} {os : OsState} {Q : Value → Shared → Prop} {k : Nat}
theorem natEq {a b : Nat} (h : (a : Int) = (b : Int)) : a = b := Int.ofNat.inj h
theorem natNe {a b : Nat} (h : ¬ (a : Int) = (b : Int)) : ¬ a = b := fun q => h (congrArg Int.ofNat q)
/-- what a row of the table adds -/
theorem pickC_hit {i n : Nat} {row : List (Addr × Nat × Str)} {j : Nat} {q : Addr × Nat × Str} (hno : ∀ p ∈ row.take j, hit i n p.2.1 = false) (hq : row[j]? = some q) (hh : hit i n q.2.1 = true) : pickC i n row = q.2.2 := by
  have : row.find? (fun q => hit i n q.2.1) = some q := by
    obtain ⟨hj, e⟩ := List.getElem?_eq_some_iff.mp hq
    rw [List.find?_eq_some_iff_append]
    refine ⟨hh, row.take j, row.drop (j + 1), ?_, fun a ha => by simp [hno a ha]⟩
    rw [← e, List.getElem_cons_drop, List.take_append_drop]
  unfold pickC; rw [this]
theorem pickC_none {i n : Nat} {row : List (Addr × Nat × Str)} (hno : ∀ p ∈ row, hit i n p.2.1 = false) : pickC i n row = if i = 0 then Str.ofString "?" else Str.ofString "-" := by
  have : row.find? (fun q => hit i n q.2.1) = none := by
    rw [List.find?_eq_none]; intro x hx; simp [hno x hx]
  unfold pickC; rw [this]
theorem fileRows_take (n i : Nat) (p : Addr × List (Addr × Nat × Str)) (hp : ftab[i]? = some p) : (fileRows n).take (i + 1) = (fileRows n).take i ++ [pickC i n p.2] := by
  have : (fileRows n)[i]? = some (pickC i n p.2) := by simp [fileRows, hp]
  rw [List.take_succ, this]; rfl

theorem ftab_short : ∀ p ∈ ftab, ∀ q ∈ p.2, q.2.2.length ≤ 1 := by decide
theorem pickC_short {i n : Nat} {p : Addr × List (Addr × Nat × Str)} (hp : p ∈ ftab) : (pickC i n p.2).length ≤ 1 := by
  unfold pickC
  split
  · rename_i q hq; exact ftab_short p hp q (List.mem_of_find?_eq_some hq)
  · split <;> decide
theorem sum_short : ∀ {ys : List Str}, (∀ y ∈ ys, y.length ≤ 1) → (ys.map (·.length)).sum ≤ ys.length
  | [], _ => Nat.le_refl _
  | y :: ys, h => by
    have h1 := h y (.head _)
    have h2 := sum_short (ys := ys) fun z hz => h z (.tail _ hz)
    simp only [List.map_cons, List.sum_cons, List.length_cons]; lia
theorem fileRows_short (n : Nat) : ∀ y ∈ fileRows n, y.length ≤ 1 := by
  intro y hy
  simp only [fileRows, List.mem_mapIdx] at hy
  obtain ⟨i, hi, rfl⟩ := hy
  exact pickC_short (List.getElem_mem _)

/-- the ledger of filemode between two rows -/
inductive FM (gs : Array GenState) (dr : Drawn) (os : OsState) (g : Heap) (L P e it : Addr) (n : Nat) (t1 : Tok) (i : Nat) (cs : List Str) (s : Shared) : Prop
  | mk (h : Heap) (m : Str → Option Value) (tk : Nat) (ob : Obj) (old : Value) (vals : List Value) (ep : Nat) : (s = ⟨h, gs, dr, tk, os⟩) → (Fr g L h m) → (News g L h [(P, listOf vals.toArray ep), (e, enumOf it ((i : Nat) : Int) old), (it, ob)]) → (isTI ob 110 i) → (StrsAre vals cs) → (m (Str.ofString "mode") = some (.int n t1)) → (m (Str.ofString "perm") = some (.ref P)) → FM gs dr os g L P e it n t1 i cs s

inductive E3_I1 (P : Addr) (gs : Array GenState) (dr : Drawn) (os : OsState) (h : Heap) (L : Addr) (n : Nat) (t1 : Tok) (itv : Value) (nn : Nat) (s' : Shared) : Prop
  | mk (e : Addr) (it : Addr) (i : Nat) : (itv = .ref e) → (e ≠ it) → (P ≠ e) → (P ≠ it) → (nn + i = 10) → (FM gs dr os h L P e it n t1 i ((fileRows n).take i) s') → E3_I1 P gs dr os h L n t1 itv nn s'
inductive E3_I2 (gs : Array GenState) (dr : Drawn) (os : OsState) (h : Heap) (L : Addr) (P : Addr) (n : Nat) (s' : Shared) : Prop
  | mk (h' : Heap) (m : Str → Option Value) (tk : Nat) (vals : List Value) (ep : Nat) : (s' = ⟨h', gs, dr, tk, os⟩) → (Fr h L h' m) → (News h L h' [(P, listOf vals.toArray ep)]) → (StrsAre vals (fileRows n)) → (m (Str.ofString "perm") = some (.ref P)) → E3_I2 gs dr os h L P n s'
inductive E3_I3 (row : List (Addr × Nat × Str)) (gs : Array GenState) (dr : Drawn) (os : OsState) (h : Heap) (L : Addr) (P : Addr) (vals : List Value) (ep : Nat) (e : Addr) (it : Addr) (i : Nat) (old' : Value) (ob' : Obj) (tA : Addr) (n : Nat) (t1 : Tok) (ti : Tok) (itv : Value) (jj : Nat) (s' : Shared) : Prop
  | mk (I : Addr) (o : Obj) (j : Nat) (h' : Heap) (m : Str → Option Value) (tk : Nat) : (itv = .ref I) → (jj + j = row.length) → (s' = ⟨h', gs, dr, tk, os⟩) → (Fr h L h' m) → (News h L h' [(I, o), (P, listOf vals.toArray ep), (e, enumOf it ((i + 1 : Nat) : Int) old'), (it, ob')]) → (isTI o tA j) → (P ≠ I) → (e ≠ I) → (it ≠ I) → ((∀ p ∈ row.take j, hit i n p.2.1 = false)) → (m (Str.ofString "mode") = some (.int n t1)) → (m (Str.ofString "perm") = some (.ref P)) → (m (Str.ofString "index") = some (.int (i : Int) ti)) → E3_I3 row gs dr os h L P vals ep e it i old' ob' tA n t1 ti itv jj s'
inductive E3_I4 (gs : Array GenState) (dr : Drawn) (os : OsState) (h : Heap) (L : Addr) (P : Addr) (vals : List Value) (ep : Nat) (e : Addr) (it : Addr) (i : Nat) (old' : Value) (ob' : Obj) (row : List (Addr × Nat × Str)) (n : Nat) (t1 : Tok) (ti : Tok) (s' : Shared) : Prop
  | mk (h' : Heap) (m : Str → Option Value) (tk : Nat) : (s' = ⟨h', gs, dr, tk, os⟩) → (Fr h L h' m) → (News h L h' [(P, listOf vals.toArray ep), (e, enumOf it ((i + 1 : Nat) : Int) old'), (it, ob')]) → ((∀ p ∈ row, hit i n p.2.1 = false)) → (m (Str.ofString "mode") = some (.int n t1)) → (m (Str.ofString "perm") = some (.ref P)) → (m (Str.ofString "index") = some (.int (i : Int) ti)) → E3_I4 gs dr os h L P vals ep e it i old' ob' row n t1 ti s'
theorem filemode_call {n : Nat} {t1 : Tok} (G : Gd w h) (r : Room A (k + 2)) (hQ : ∀ h' tk u, Keep h h' → h.objs.size ≤ h'.objs.size → Q (.str (fileText n) u) ⟨h', gs, dr, tk, os⟩) :
    wpAny (model prog w) A (call (.ref 117) [.int n t1]) Q E ⟨h, gs, dr, t, os⟩ := by
  refine callw G (fun _ _ e => e) (Nat.le_refl _) (k := k + 1) r (f := 117) (binds := [(Str.ofString "mode", .int n t1)]) rfl rfl rfl (locs rfl) fun L h₁ A' E' tk hL R F hk₁ => ?_
  have N : News h L h₁ [] := News.nil
  refine s_asg (List_ (wpAny_items_nil (n_list F N (by simp) fun P h₂ F N _ _ _ => ?_)))
  refine sto F N fun h₂ F N => ?_
  refine s_forA (E3_I1 P gs dr os h L n t1)
    (E3_I2 gs dr os h L P n)
    (E3_I2 gs dr os h L P n) ?iter ?turn ?els ?done
  case iter =>
    refine Call_ (nmB F G rfl boot_enumerate (by decide) (callWith_type1 (wpAny_items_cons (nmG F G (v := .ref 110) rfl (wpAny_items_nil ?_)))))
    refine i_enumT F N (tab_all G) fun e it ob h₃ F N ho hne hei => ?_
    refine wpAny_pyIter_enum (N _ (.head _)).1 ⟨10, e, it, 0, rfl, hei, (hne _ (.head _)).1, (hne _ (.head _)).2, rfl, _, _, _, ob, .none, [], 0, rfl, F, news_perm N ?_, ho, ?_, by walk_at "lk", by walk_at "lk"⟩
    · intro q hq; simp only [List.mem_cons] at hq ⊢; rcases hq with h | h | h | h
      · exact .inr (.inr (.inl h))
      · exact .inl h
      · exact .inr (.inl h)
      · simp at h
    · exact .nil
  case turn =>
    rintro itv nn s' ⟨e, it, i, rfl, hei, hPe, hPi, hnn, h', m, tk, ob, old, vals, ep, rfl, F, N, ho, hvs, m1, m2⟩
    have N := news_perm (rest' := [(e, enumOf it ((i : Nat) : Int) old), (it, ob), (P, listOf vals.toArray ep)]) N (by
      intro q hq; simp only [List.mem_cons] at hq ⊢; rcases hq with h | h | h | h
      · exact .inr (.inl h)
      · exact .inr (.inr (.inl h))
      · exact .inl h
      · simp at h)
    have hr : ∀ p ∈ [(P, listOf vals.toArray ep)], p.1 ≠ e ∧ p.1 ≠ it := by
      intro p hp; rw [List.mem_singleton.mp hp]; exact ⟨hPe, hPi⟩
    have hvl : vals.length ≤ 10 := by have := hvs.length; simp at this; have h10 : (fileRows n).length = 10 := by simp [fileRows, ftab]
                                      lia
    cases nn with
    | zero =>
      have hi : i = 10 := by lia
      subst hi
      refine x_enumT0 R F N (vs := ftab.map (fun p => Value.ref p.1)) ho hr hei (tab_all G) fun h'' F N => ?_
      exact ⟨_, _, _, vals, ep, rfl, F, N, hvs, m2⟩
    | succ nn =>
      have hi : i < ftab.length := by show i < 10; lia
      have hp : ftab[i]? = some ftab[i] := by simp [hi]
      generalize ftab[i] = p at hp
      obtain ⟨tA, row⟩ := p
      have hT := tab_rows G (tA, row) (List.mem_of_getElem? hp)
      refine x_enumT R F N ho hr hei (tab_all G) (vs := ftab.map (fun p => Value.ref p.1)) (v := .ref tA) (by simp [hp]) fun ob' old' h'' tk ti F N ho' => ?_
      rw [show ((i : Int) + 1) = ((i + 1 : Nat) : Int) by lia] at N
      have N := news_perm (rest' := [(P, listOf vals.toArray ep), (e, enumOf it ((i + 1 : Nat) : Int) old'), (it, ob')]) N (by
        intro q hq; simp only [List.mem_cons] at hq ⊢; rcases hq with h | h | h | h
        · exact .inr (.inr (.inl h))
        · exact .inl h
        · exact .inr (.inl h)
        · simp at h)
      have hcs := fileRows_take n i _ hp
      -- the inner loop
      refine s_forA (E3_I3 row gs dr os h L P vals ep e it i old' ob' tA n t1 ti)
        (E3_I4 gs dr os h L P vals ep e it i old' ob' row n t1 ti)
        (fun s' => FM gs dr os h L P e it n t1 (i + 1) ((fileRows n).take (i + 1)) s') ?iter2 ?turn2 ?els2 ?done2
      case iter2 =>
        walk_at "nm"
        refine i_tup F N hT.1 fun I o h₃ F N ho2 hne => ?_
        exact ⟨row.length, I, o, 0, h₃, _, _, rfl, by lia, rfl, F, N, ho2, hne _ (.head _), hne _ (.tail _ (.head _)), hne _ (.tail _ (.tail _ (.head _))), by simp, by walk_at "lk", by walk_at "lk", by walk_at "lk"⟩
      case turn2 =>
        rintro itv jj s' ⟨I, o, j, h', m, tk, rfl, hjj, rfl, F, N, ho2, hPI, heI, hiI, hno, m1, m2, m3⟩
        cases jj with
        | zero =>
          have hj : j = row.length := by lia
          subst hj
          refine x_tup0 R F N ho2 (neC hPI (neC heI (ne1 hiI))) hT.1 (by simp) fun h'' F N => ?_
          exact ⟨_, _, _, rfl, F, N, by simpa using hno, m1, m2, m3⟩
        | succ jj =>
          have hj : j < row.length := by lia
          have hq : row[j]? = some row[j] := by simp [hj]
          generalize row[j] = q at hq
          obtain ⟨qa, b, c⟩ := q
          obtain ⟨tb, tc, hqt⟩ := hT.2 _ (List.mem_of_getElem? hq)
          refine x_tup F N ho2 (neC hPI (neC heI (ne1 hiI))) hT.1 (v := .ref qa) (by simp [hq]) fun o' h'' F N ho3 => ?_
          refine letOwned_tupiter (s := ⟨h'', gs, dr, tk, os⟩) ⟨o', (N _ (.head _)).1, ho3⟩ ?_
          refine a_tup F N (hqt.keeps F.keep) R rfl rfl fun h₂ F N => ?_
          refine assignInOrder_cons (wpAny_assign_Name (sto F N fun h₂ F N => ?_))
          refine assignInOrder_cons (wpAny_assign_Name (sto F N fun h₂ F N => ?_))
          refine assignInOrder_nil ?_
          have add : ∀ {h₃ : Heap} {m₃ : Str → Option Value} {tk₃ : Nat}, hit i n b = true → Fr h L h₃ m₃ → News h L h₃ [(P, listOf (vals ++ [Value.str c tc]).toArray (ep + 1)), (I, o'), (e, enumOf it ((i + 1 : Nat) : Int) old'), (it, ob')] → m₃ (Str.ofString "mode") = some (.int n t1) → m₃ (Str.ofString "perm") = some (.ref P) →
              FM gs dr os h L P e it n t1 (i + 1) ((fileRows n).take (i + 1)) ⟨h₃, gs, dr, tk₃, os⟩ := by
            intro h₃ m₃ tk₃ hh F N z1 z2
            refine ⟨h₃, m₃, tk₃, ob', old', vals ++ [Value.str c tc], ep + 1, rfl, F, news_perm N ?_, ho', ?_, z1, z2⟩
            · intro q hq; simp only [List.mem_cons] at hq ⊢; rcases hq with h | h | h | h
              · exact .inl h
              · exact .inr (.inr (.inl h))
              · exact .inr (.inr (.inr (.inl h)))
              · simp at h
            · rw [hcs, pickC_hit hno hq hh]; exact hvs.append' (.cons _ _ .nil)
          have stay : ∀ {h₃ : Heap} {m₃ : Str → Option Value} {tk₃ : Nat}, hit i n b = false → Fr h L h₃ m₃ → News h L h₃ [(I, o'), (P, listOf vals.toArray ep), (e, enumOf it ((i + 1 : Nat) : Int) old'), (it, ob')] → m₃ (Str.ofString "mode") = some (.int n t1) → m₃ (Str.ofString "perm") = some (.ref P) → m₃ (Str.ofString "index") = some (.int (i : Int) ti) →
              ∃ j', j' < jj + 1 ∧ E3_I3 row gs dr os h L P vals ep e it i old' ob' tA n t1 ti (.ref I) j' ⟨h₃, gs, dr, tk₃, os⟩ := by
            intro h₃ m₃ tk₃ hh F N z1 z2 z3
            refine ⟨jj, by lia, I, o', j + 1, h₃, m₃, tk₃, rfl, by lia, rfl, F, N, ho3, hPI, heI, hiI, ?_, z1, z2, z3⟩
            intro p hp
            rw [List.take_succ, hq] at hp
            rcases List.mem_append.mp hp with hp | hp
            · exact hno p hp
            · simp at hp; rw [hp]; exact hh
          refine s_if (wpAny_isTrue_Compare1 ?_)
          walk_at "nm"
          refine e_int (eq_int (wpAny_truthy_bool (ite_b (fun hb => ?_) fun hb => ?_)))
          · have hi0 : i = 0 := by simpa using hb
            refine s_if (wpAny_isTrue_Compare1 ?_)
            refine Call_ (nmG F G (v := .ref 77) rfl (c_def rfl (wpAny_items_cons ?_)))
            walk_at "nm"
            refine wpAny_items_nil ⟨G.K.keeps F.keep, ifmt_call (k := 0) (G.keeps F.keep) (R.less (by lia)) fun h₃ tk u hk _ => ?_⟩
            have F := kept_fr F hk
            have N := kept_news N hk
            walk_at "nm"
            refine eq_int (wpAny_truthy_bool (ite_b (fun hb2 => ?_) fun hb2 => ?_))
            · have hh : hit i n b = true := by simp only [hit, hi0, if_true]; simpa using natEq (by simpa using hb2)
              refine s_expr (MethodCall_ ?_)
              walk_at "nm"
              refine l_meth (N _ (.tail _ (.head _))).1 PySem.F.slot_list_append PySem.F.type_list_append (c_blt (wpAny_items_cons ?_))
              walk_at "nm"
              refine wpAny_items_nil ?_
              have N := news_perm (rest' := [(P, listOf vals.toArray ep), (I, o'), (e, enumOf it ((i + 1 : Nat) : Int) old'), (it, ob')]) N (by
                intro q hq; simp only [List.mem_cons] at hq ⊢; rcases hq with h | h | h | h | h
                · exact .inr (.inl h)
                · exact .inl h
                · exact .inr (.inr (.inl h))
                · exact .inr (.inr (.inr (.inl h)))
                · simp at h)
              refine l_app F N (neC hPI.symm (neC hPe.symm (ne1 hPi.symm))) (by lia) fun h₇ F N => ?_
              refine s_brk ?_
              exact add hh F N (by walk_at "lk") (by walk_at "lk")
            · have hh : hit i n b = false := by simp only [hit, hi0, if_true]; simpa using natNe (by simpa using hb2)
              refine s_nil (then_next (s_nil (then_next (s_nil ?_))))
              exact stay hh F N (by walk_at "lk") (by walk_at "lk") (by walk_at "lk")
          · have hi0 : i ≠ 0 := by simpa using hb
            refine s_if (wpAny_isTrue_Compare1 ?_)
            refine wpAny_BinOp ?_
            walk_at "nm"
            walk_at "nm"
            refine o_andE (c := ((n &&& b : Nat) : Int)) (band_nat n b) ?_
            walk_at "nm"
            refine eq_int (wpAny_truthy_bool (ite_b (fun hb2 => ?_) fun hb2 => ?_))
            · have hh : hit i n b = true := by simp only [hit, hi0, if_false]; simpa using natEq (by simpa using hb2)
              refine s_expr (MethodCall_ ?_)
              walk_at "nm"
              refine l_meth (N _ (.tail _ (.head _))).1 PySem.F.slot_list_append PySem.F.type_list_append (c_blt (wpAny_items_cons ?_))
              walk_at "nm"
              refine wpAny_items_nil ?_
              have N := news_perm (rest' := [(P, listOf vals.toArray ep), (I, o'), (e, enumOf it ((i + 1 : Nat) : Int) old'), (it, ob')]) N (by
                intro q hq; simp only [List.mem_cons] at hq ⊢; rcases hq with h | h | h | h | h
                · exact .inr (.inl h)
                · exact .inl h
                · exact .inr (.inr (.inl h))
                · exact .inr (.inr (.inr (.inl h)))
                · simp at h)
              refine l_app F N (neC hPI.symm (neC hPe.symm (ne1 hPi.symm))) (by lia) fun h₇ F N => ?_
              refine s_brk ?_
              exact add hh F N (by walk_at "lk") (by walk_at "lk")
            · have hh : hit i n b = false := by simp only [hit, hi0, if_false]; simpa using natNe (by simpa using hb2)
              refine s_nil (then_next (s_nil (then_next (s_nil ?_))))
              exact stay hh F N (by walk_at "lk") (by walk_at "lk") (by walk_at "lk")
      case els2 =>
        rintro s' ⟨h', m, tk, rfl, F, N, hno, m1, m2, m3⟩
        have hpk := pickC_none (i := i) hno
        have fin : ∀ {c : Str} {tc : Tok} {h₃ : Heap} {m₃ : Str → Option Value} {tk₃ : Nat}, pickC i n row = c → Fr h L h₃ m₃ → News h L h₃ [(P, listOf (vals ++ [Value.str c tc]).toArray (ep + 1)), (e, enumOf it ((i + 1 : Nat) : Int) old'), (it, ob')] → m₃ (Str.ofString "mode") = some (.int n t1) → m₃ (Str.ofString "perm") = some (.ref P) →
              FM gs dr os h L P e it n t1 (i + 1) ((fileRows n).take (i + 1)) ⟨h₃, gs, dr, tk₃, os⟩ := by
          intro c tc h₃ m₃ tk₃ hc F N z1 z2
          refine ⟨h₃, m₃, tk₃, ob', old', _, _, rfl, F, N, ho', ?_, z1, z2⟩
          rw [hcs, hc]; exact hvs.append' (.cons _ _ .nil)
        refine s_if (wpAny_isTrue_Compare1 ?_)
        walk_at "nm"
        refine e_int (eq_int (wpAny_truthy_bool (ite_b (fun hb => ?_) fun hb => ?_)))
        · have hi0 : i = 0 := by simpa using hb
          refine s_expr (MethodCall_ ?_)
          walk_at "nm"
          refine l_meth (N _ (.head _)).1 PySem.F.slot_list_append PySem.F.type_list_append (c_blt (wpAny_items_cons (e_str (wpAny_items_nil ?_))))
          refine l_app F N (neC hPe.symm (ne1 hPi.symm)) (by lia) fun h₇ F N => ?_
          refine s_nil (then_next (s_nil ⟨rfl, fin (hpk.trans (if_pos hi0)) F N m1 m2⟩))
        · have hi0 : i ≠ 0 := by simpa using hb
          refine s_expr (MethodCall_ ?_)
          walk_at "nm"
          refine l_meth (N _ (.head _)).1 PySem.F.slot_list_append PySem.F.type_list_append (c_blt (wpAny_items_cons (e_str (wpAny_items_nil ?_))))
          refine l_app F N (neC hPe.symm (ne1 hPi.symm)) (by lia) fun h₇ F N => ?_
          refine s_nil (then_next (s_nil ⟨rfl, fin (hpk.trans (if_neg hi0)) F N m1 m2⟩))
      case done2 =>
        rintro s' hf
        refine s_nil ⟨nn, by lia, e, it, i + 1, rfl, hei, hPe, hPi, by lia, hf⟩
  case els =>
    rintro s' hs
    exact s_nil ⟨rfl, hs⟩
  case done =>
    rintro s' ⟨h', m, tk, vals, ep, rfl, F, N, hvs, m2⟩
    refine s_ret (MethodCall_ (e_str ?_))
    refine getMethod_builtin (T := "str") rfl PySem.F.plainAttrs_str PySem.F.slot_str_join PySem.F.type_str_join (fun a e => by cases e) ?_
    refine c_blt (wpAny_items_cons ?_)
    walk_at "nm"
    refine wpAny_items_nil (join_listW (items := vals.toArray) ⟨_, (N _ (.head _)).1, rfl, _, rfl⟩ (by simpa using hvs) (by decide) ?_ fun t' k' => ?_)
    · have h10 : (fileRows n).length = 10 := by simp [fileRows, ftab]
      have := sum_short (fileRows_short n)
      lia
    · exact hQ _ _ _ F.keep (frame_size F hL)
end
end Mine
namespace Mine
local macro_rules | `(tactic| walk_at "lk") => `(tactic| first | with_reducible exact upd_eq | (refine upd_ne (by rfl) ?_; walk_at "lk") | with_reducible assumption | rfl)
local macro_rules | `(tactic| walk_at "nm") => `(tactic| refine nmL (by with_reducible assumption) (by walk_at "lk") ?_)
abbrev rngO (n : Int) (t u v : Tok) : Obj := { cls := .type "range", data := .fields #[.int 0 t, .int n u, .int 1 v] }
section
variable {prog : Program} {w : World} {A : Around} {E : Value → Shared → Prop} {h : Heap} {gs : Array GenState} {dr : Drawn} {t : Nat} {os : OsState} {g : Heap} {L : Addr} {m : Str → Option Value} {rest : List (Addr × Obj)}
theorem c_range {n : Nat} {t1 : Tok} {Q : Value → Shared → Prop} (F : Fr g L h m) (N : News g L h rest)
    (q : ∀ r t2 t3 h' tk, Fr g L h' m → News g L h' ((r, rngO n t2 t1 t3) :: rest) → (∀ p ∈ rest, p.1 ≠ r) → Q (.ref r) ⟨h', gs, dr, tk, os⟩) :
    wpAny (model prog w) A (call (.type "range") [.int n t1]) Q E ⟨h, gs, dr, t, os⟩ := by
  refine call_range_1 (s := ⟨h, gs, dr, t, os⟩) ?_
  obtain ⟨a, b, c, -, -⟩ := n_obj (ob := rngO n t t1 (t + 1)) F N rfl
  exact q _ _ _ _ _ a b c
theorem i_rng {n : Nat} {r : Addr} {t1 t2 t3 : Tok} {Q : Value → Shared → Prop} (F : Fr g L h m) (N : News g L h rest) (hr : (r, rngO n t1 t2 t3) ∈ rest) (hn : n ≤ 1000)
    (q : ∀ I h', Fr g L h' m → News g L h' ((I, rngIt 0 n 1) :: rest) → (∀ p ∈ rest, p.1 ≠ I) → Q (.ref I) ⟨h', gs, dr, t, os⟩) :
    wpAny (model prog w) A (pyIter (.ref r)) Q E ⟨h, gs, dr, t, os⟩ := by
  refine wpAny_pyIter_range (s := ⟨h, gs, dr, t, os⟩) (N _ hr).1 (small_one (by decide) (by decide) (by lia) (by lia)) ?_
  have e : Builtin.Range.rangeSize 0 (n : Int) 1 = n := by rw [rangeSize_one]; split <;> lia
  rw [e]
  obtain ⟨a, b, c, -, -⟩ := n_obj (ob := rngIt 0 n 1) F N rfl
  exact q _ _ a b c
theorem ldN {x : Str} {name : Str} {scope : Scope} {a : Addr} {cd : Value} {v : Value} {Q : Value → Shared → Prop} (F : Fr g L h m) (hv : m x = some v) (q : Q v ⟨h, gs, dr, t, os⟩)
    (hk : scope.kind = .function := by rfl) (hl : (envOf name scope L a cd).kindOf x = some .local := by rfl) :
    wpAny (model prog w) A (loadName (envOf name scope L a cd) x) Q E ⟨h, gs, dr, t, os⟩ := wpAny_loadName_local hk hl F.ns hv q
theorem t_item {value slice : Expr} {x : Str} {t1 u : Tok} {i : Nat} {Q : Value → Shared → Prop} (h2 : i < x.length) (hx : x.length ≤ 1000)
    (q : ∀ k, Q (.str (Txt.item x (i : Int)) k) ⟨h, gs, dr, k + 1, os⟩)
    (hs : subscripted slice false (.str x t1) (.int i u) = operate [.str x t1, .int i u] (getItem (.str x t1) (.int i u)) := by with_unfolding_all rfl)
    (ht : ∀ r, letTemporaryGo value (.str x t1) r = pure () := by intro _; with_unfolding_all rfl) :
    wpAny (model prog w) A (subscriptTail value slice (.str x t1) (.int i u)) Q E ⟨h, gs, dr, t, os⟩ :=
  KXi.item (s := ⟨h, gs, dr, t, os⟩) (n := x.length) rfl (by lia) (by lia) (by lia) (fun _ => q t) hs ht
theorem o_cat {x y : Str} {t1 t2 : Tok} {Q : Value → Shared → Prop} (hz : x.length + y.length ≤ 1000) (q : ∀ t' k, Q (.str (x ++ y) t') ⟨h, gs, dr, k, os⟩) :
    wpAny (model prog w) A (binaryOp .Add (.str x t1) (.str y t2)) Q E ⟨h, gs, dr, t, os⟩ := SB.add (s := ⟨h, gs, dr, t, os⟩) q (by rw [sizeLine_eq]; lia)
theorem o_icat {x y : Str} {t1 t2 : Tok} {Q : Value → Shared → Prop} (hz : x.length + y.length ≤ 1000) (q : ∀ t' k, Q (.str (x ++ y) t') ⟨h, gs, dr, k, os⟩) :
    wpAny (model prog w) A (inplaceOp .Add (.str x t1) (.str y t2)) Q E ⟨h, gs, dr, t, os⟩ := SB.iadd (s := ⟨h, gs, dr, t, os⟩) q (by rw [sizeLine_eq]; lia)
theorem o_powE {a n c : Int} {t1 t2 : Tok} {Q : Value → Shared → Prop} (hn : 0 ≤ n) (hsz : (Builtin.Int.intBits a : Int) * n ≤ 2 ^ 27) (e : a ^ n.toNat = c) (q : Q (.int c t) ⟨h, gs, dr, t + 1, os⟩) :
    wpAny (model prog w) A (binaryOp .Pow (.int a t1) (.int n t2)) Q E ⟨h, gs, dr, t, os⟩ := pow_int (s := ⟨h, gs, dr, t, os⟩) hn hsz (e ▸ q)
end

/-! what _law_says and _law_text say -/
def saysOf (kind : Int) (bits : Nat) : Nat × Nat := if kind = 1 then (bits, 0) else if kind = 3 then (4095, bits) else if kind = 4 then (61440, bits % 16 * 4096) else (bits, bits)
def fig (n p : Nat) : Nat := n / 8 ^ (2 - p) % 8
def abv (n p : Nat) : Nat := n / 512 / 2 ^ (2 - p) % 2
def kinds : Str := Str.ofString "?pc?d?b?-?l?s???"
def trip (p : Nat) : Str := if p = 2 then Str.ofString "-xTt" else Str.ofString "-xSs"
def textStep (n p : Nat) (row : Str) : Str := (row ++ (Txt.item (Str.ofString "-r") (fig n p / 4 : Nat) ++ Txt.item (Str.ofString "-w") (fig n p / 2 % 2 : Nat))) ++ Txt.item (trip p) (fig n p % 2 + 2 * abv n p : Nat)
def textGo (n : Nat) : Nat → Str
  | 0 => Txt.item kinds (n / 4096 : Nat)
  | p + 1 => textStep n p (textGo n p)
def lawText (n : Nat) : Str := textGo n 3
theorem textGo_len (n : Nat) : ∀ p, (textGo n p).length = 1 + 3 * p
  | 0 => rfl
  | p + 1 => by simp only [textGo, textStep, size_cat, textGo_len n p, len_item]; lia

section
variable {prog : Program} {w : World} {A : Around} {E : Value → Shared → Prop} {h : Heap} {gs : Array GenState} {dr : Drawn} {t : Nat} {os : OsState} {Q : Value → Shared → Prop} {k : Nat}
theorem says_call {kind : Int} {bits : Nat} {t1 t2 : Tok} (G : Gd w h) (r : Room A (k + 1))
    (hQ : ∀ T u1 u2 h' tk, Keep h h' → h.objs.size ≤ h'.objs.size → h.get? T = none → h'.get? T = some (tupOf [.int ((saysOf kind bits).1 : Nat) u1, .int ((saysOf kind bits).2 : Nat) u2]) → Q (.ref T) ⟨h', gs, dr, tk, os⟩) :
    wpAny (model prog w) A (call (.ref 152) [.int kind t1, .int bits t2]) Q E ⟨h, gs, dr, t, os⟩ := by
  refine callw G (fun _ _ e => e) (Nat.le_refl _) r (f := 152) (binds := [(Str.ofString "kind", .int kind t1), (Str.ofString "bits", .int bits t2)]) rfl rfl rfl (locs rfl) fun L h₁ A' E' tk hL R F hk₁ => ?_
  have N : News h L h₁ [] := News.nil
  have fin : ∀ {a b : Nat} {u1 u2 : Tok} {h' : Heap} {m T tk}, saysOf kind bits = (a, b) → Fr h L h' m → News h L h' [(T, tupOf [.int (a : Int) u1, .int (b : Int) u2])] → Q (.ref T) ⟨h', gs, dr, tk, os⟩ := by
    intro a b u1 u2 h' m T tk e F N
    refine hQ T u1 u2 h' tk F.keep (frame_size F hL) (N _ (.head _)).2.2 ?_
    rw [e]; exact (N _ (.head _)).1
  refine s_if (wpAny_isTrue_Compare1 ?_)
  walk_at "nm"
  refine e_int (eq_int (wpAny_truthy_bool (ite_b (fun hb => ?_) fun hb => ?_)))
  · have e1 : kind = 1 := by simpa using hb
    refine s_ret (Tuple_ (wpAny_items_cons ?_))
    walk_at "nm"
    refine wpAny_items_cons (e_int (wpAny_items_nil (n_tup F N (by simp) fun T h₂ F N _ _ _ => ?_)))
    exact fin (b := 0) (by simp [saysOf, e1]) F N
  have e1 : kind ≠ 1 := by simpa using hb
  refine s_nil (then_next ?_)
  refine s_if (wpAny_isTrue_Compare1 ?_)
  walk_at "nm"
  refine e_int (eq_int (wpAny_truthy_bool (ite_b (fun hb => ?_) fun hb => ?_)))
  · have e3 : kind = 3 := by simpa using hb
    refine s_ret (Tuple_ (wpAny_items_cons (e_int (wpAny_items_cons ?_))))
    walk_at "nm"
    refine wpAny_items_nil (n_tup F N (by simp) fun T h₂ F N _ _ _ => ?_)
    exact fin (a := 4095) (by simp [saysOf, e3]) F N
  have e3 : kind ≠ 3 := by simpa using hb
  refine s_nil (then_next ?_)
  refine s_if (wpAny_isTrue_Compare1 ?_)
  walk_at "nm"
  refine e_int (eq_int (wpAny_truthy_bool (ite_b (fun hb => ?_) fun hb => ?_)))
  · have e4 : kind = 4 := by simpa using hb
    refine s_ret (Tuple_ (wpAny_items_cons (e_int (wpAny_items_cons (wpAny_BinOp (wpAny_BinOp ?_))))))
    walk_at "nm"
    refine e_int (o_modE (by decide) (c := ((bits % 16 : Nat) : Int)) (by rw [fmod_pos (by decide)]; rfl) (e_int (o_mulE (c := ((bits % 16 * 4096 : Nat) : Int)) (.of_right (by decide +kernel)) (by simp) ?_)))
    refine wpAny_items_nil (n_tup F N (by simp) fun T h₂ F N _ _ _ => ?_)
    exact fin (a := 61440) (by simp [saysOf, e4]) F N
  have e4 : kind ≠ 4 := by simpa using hb
  refine s_nil (then_next ?_)
  refine s_ret (Tuple_ (wpAny_items_cons ?_))
  walk_at "nm"
  refine wpAny_items_cons ?_
  walk_at "nm"
  refine wpAny_items_nil (n_tup F N (by simp) fun T h₂ F N _ _ _ => ?_)
  exact fin (by simp [saysOf, e1, e3, e4]) F N

inductive E4_I1 (gs : Array GenState) (dr : Drawn) (os : OsState) (h : Heap) (L : Addr) (n : Nat) (t1 : Tok) (itv : Value) (nn : Nat) (s' : Shared) : Prop
  | mk (h' : Heap) (m : Str → Option Value) (tk : Nat) (I : Addr) (r : Addr) (t2 : Tok) (t3 : Tok) (t4 : Tok) (p : Nat) (u : Tok) : (s' = ⟨h', gs, dr, tk, os⟩) → (itv = .ref I) → (nn + p = 3) → (Fr h L h' m) → (News h L h' [(I, rngIt (p : Nat) (nn : Nat) 1), (r, rngO 3 t2 t3 t4)]) → (r ≠ I) → (m (Str.ofString "mode") = some (.int n t1)) → (m (Str.ofString "row") = some (.str (textGo n p) u)) → E4_I1 gs dr os h L n t1 itv nn s'
inductive E4_I2 (gs : Array GenState) (dr : Drawn) (os : OsState) (h : Heap) (L : Addr) (n : Nat) (s' : Shared) : Prop
  | mk (h' : Heap) (m : Str → Option Value) (tk : Nat) (u : Tok) : (s' = ⟨h', gs, dr, tk, os⟩) → (Fr h L h' m) → (m (Str.ofString "row") = some (.str (textGo n 3) u)) → E4_I2 gs dr os h L n s'
theorem pw8 {p : Nat} (h : p = 0 ∨ p = 1 ∨ p = 2) : 0 < 8 ^ (2 - p) ∧ 8 ^ (2 - p) ≤ 64 := by rcases h with rfl | rfl | rfl <;> decide
theorem pw2 {p : Nat} (h : p = 0 ∨ p = 1 ∨ p = 2) : 0 < 2 ^ (2 - p) ∧ 2 ^ (2 - p) ≤ 4 := by rcases h with rfl | rfl | rfl <;> decide
theorem pw8b {p : Nat} (h : p = 0 ∨ p = 1 ∨ p = 2) : (Builtin.Int.intBits 8 : Int) * ((2 - p : Nat) : Int) ≤ 2 ^ 27 := by rcases h with rfl | rfl | rfl <;> decide
theorem pw2b {p : Nat} (h : p = 0 ∨ p = 1 ∨ p = 2) : (Builtin.Int.intBits 2 : Int) * ((2 - p : Nat) : Int) ≤ 2 ^ 27 := by rcases h with rfl | rfl | rfl <;> decide
theorem pw8e {p : Nat} (h : p = 0 ∨ p = 1 ∨ p = 2) : (8 : Int) ^ ((2 - p : Nat) : Int).toNat = ((8 ^ (2 - p) : Nat) : Int) := by rcases h with rfl | rfl | rfl <;> rfl
theorem pw2e {p : Nat} (h : p = 0 ∨ p = 1 ∨ p = 2) : (2 : Int) ^ ((2 - p : Nat) : Int).toNat = ((2 ^ (2 - p) : Nat) : Int) := by rcases h with rfl | rfl | rfl <;> rfl
theorem trip_len {p : Nat} (h : p = 0 ∨ p = 1 ∨ p = 2) : (trip p).length = 4 := by rcases h with rfl | rfl | rfl <;> decide
theorem trip_at {p : Nat} {t0 t1 t2 : Tok} (h : p = 0 ∨ p = 1 ∨ p = 2) : ∃ tt, [Value.str (Str.ofString "-xSs") t0, .str (Str.ofString "-xSs") t1, .str (Str.ofString "-xTt") t2][p]? = some (.str (trip p) tt) := by
  rcases h with rfl | rfl | rfl <;> exact ⟨_, rfl⟩
theorem text_call {n : Nat} {t1 : Tok} (G : Gd w h) (hn : n < 65536) (r : Room A (k + 1)) (hQ : ∀ h' tk u, Keep h h' → h.objs.size ≤ h'.objs.size → Q (.str (lawText n) u) ⟨h', gs, dr, tk, os⟩) :
    wpAny (model prog w) A (call (.ref 159) [.int n t1]) Q E ⟨h, gs, dr, t, os⟩ := by
  refine callw G (fun _ _ e => e) (Nat.le_refl _) r (f := 159) (binds := [(Str.ofString "mode", .int n t1)]) rfl rfl rfl (locs rfl) fun L h₁ A' E' tk hL R F hk₁ => ?_
  have N : News h L h₁ [] := News.nil
  refine s_asg (Subscript_ (e_str (wpAny_BinOp ?_)))
  walk_at "nm"
  refine e_int (o_divE (by decide) (PyProof.noPylong_small (by decide)) (c := ((n / 4096 : Nat) : Int)) (by rw [fdiv_pos (by decide)]; rfl) ?_)
  refine t_item (i := n / 4096) (by show n / 4096 < 16; lia) (by decide) fun k1 => ?_
  refine sto F N fun h₂ F N => ?_
  refine s_forJ (E4_I1 gs dr os h L n t1)
    (E4_I2 gs dr os h L n) ?iter ?turn ?done
  case iter =>
    refine Call_ (nmB F G rfl boot_range (by decide) (callWith_type1 (wpAny_items_cons (e_int (wpAny_items_nil ?_)))))
    refine c_range (n := 3) F N fun r t2 t3 h₃ tk F N _ => ?_
    refine i_rng F N (.head _) (by decide) fun I h₄ F N hI => ?_
    exact ⟨⟨3, _, _, _, I, r, _, _, _, 0, _, rfl, rfl, rfl, F, N, hI _ (.head _), by walk_at "lk", by walk_at "lk"⟩, fun v => rfl⟩
  case turn =>
    rintro itv nn s' ⟨h', m, tk, I, rr, t2, t3, t4, p, u, rfl, rfl, hnn, F, N, hrI, m1, m2⟩
    cases nn with
    | zero =>
      have hp : p = 3 := by lia
      subst hp
      refine x_rng0 R F N (ne1 hrI) (by lia) fun h'' F N => ?_
      exact ⟨_, _, _, _, rfl, F, m2⟩
    | succ nn =>
      have hp : p < 3 := by lia
      refine x_rng F N (ne1 hrI) (by lia) fun h'' F N => ?_
      refine wpAny_assign_Name (sto F N fun h₃ F N => ?_)
      refine wpAny_post fun P hP => ?_
      have hp3 : p = 0 ∨ p = 1 ∨ p = 2 := by lia
      have p8 := pw8 hp3
      have p2 := pw2 hp3
      -- figure
      refine s_asg (wpAny_BinOp (wpAny_BinOp ?_))
      walk_at "nm"
      refine wpAny_BinOp (e_int (wpAny_BinOp (e_int ?_)))
      walk_at "nm"
      refine o_subE (c := ((2 - p : Nat) : Int)) (by lia) ?_
      refine o_powE (c := ((8 ^ (2 - p) : Nat) : Int)) (Int.natCast_nonneg _) (pw8b hp3) (pw8e hp3) ?_
      refine o_divE (c := ((n / 8 ^ (2 - p) : Nat) : Int)) (by lia) (PyProof.noPylong_small (by rw [Int.natAbs_natCast]; lia)) (by rw [fdiv_pos (by lia)]; rfl) ?_
      refine e_int (o_modE (c := ((fig n p : Nat) : Int)) (by decide) (by rw [fmod_pos (by decide)]; rfl) ?_)
      refine sto F N fun h₄ F N => ?_
      -- above
      refine s_asg (wpAny_BinOp (wpAny_BinOp (wpAny_BinOp ?_)))
      walk_at "nm"
      refine e_int (o_divE (c := ((n / 512 : Nat) : Int)) (by decide) (PyProof.noPylong_small (by decide)) (by rw [fdiv_pos (by decide)]; rfl) ?_)
      refine wpAny_BinOp (e_int (wpAny_BinOp (e_int ?_)))
      walk_at "nm"
      refine o_subE (c := ((2 - p : Nat) : Int)) (by lia) ?_
      refine o_powE (c := ((2 ^ (2 - p) : Nat) : Int)) (Int.natCast_nonneg _) (pw2b hp3) (pw2e hp3) ?_
      refine o_divE (c := ((n / 512 / 2 ^ (2 - p) : Nat) : Int)) (by lia) (PyProof.noPylong_small (by rw [Int.natAbs_natCast]; lia)) (by rw [fdiv_pos (by lia)]; rfl) ?_
      refine e_int (o_modE (c := ((abv n p : Nat) : Int)) (by decide) (by rw [fmod_pos (by decide)]; rfl) ?_)
      refine sto F N fun h₅ F N => ?_
      have hf : fig n p < 8 := by unfold fig; lia
      have ha : abv n p < 2 := by unfold abv; lia
      have hl := textGo_len n p
      -- row +=
      refine s_aug (ldN F (by walk_at "lk") (wpAny_BinOp (Subscript_ (e_str (wpAny_BinOp ?_)))))
      walk_at "nm"
      refine e_int (o_divE (c := ((fig n p / 4 : Nat) : Int)) (by decide) (PyProof.noPylong_small (by decide)) (by rw [fdiv_pos (by decide)]; rfl) ?_)
      refine t_item (by show fig n p / 4 < 2; lia) (by decide) fun k1 => ?_
      refine Subscript_ (e_str (wpAny_BinOp (wpAny_BinOp ?_)))
      walk_at "nm"
      refine e_int (o_divE (c := ((fig n p / 2 : Nat) : Int)) (by decide) (PyProof.noPylong_small (by decide)) (by rw [fdiv_pos (by decide)]; rfl) ?_)
      refine e_int (o_modE (c := ((fig n p / 2 % 2 : Nat) : Int)) (by decide) (by rw [fmod_pos (by decide)]; rfl) ?_)
      refine t_item (by show fig n p / 2 % 2 < 2; lia) (by decide) fun k2 => ?_
      refine o_cat (by rw [len_item, len_item]; decide) fun t5 k3 => ?_
      refine o_icat (by rw [size_cat, len_item, len_item, hl]; lia) fun t6 k4 => ?_
      refine sto F N fun h₆ F N => ?_
      refine s_aug (ldN F (by walk_at "lk") (Subscript_ (Subscript_ (List_ (wpAny_items_cons (e_str (wpAny_items_cons (e_str (wpAny_items_cons (e_str (wpAny_items_nil (n_list F N (by simp) fun D h₇ F N hD _ _ => ?_))))))))))))
      walk_at "nm"
      obtain ⟨vs, ⟨tt, hvs⟩, hvl, N⟩ : ∃ vs : List Value, (∃ tt, vs[p]? = some (.str (trip p) tt)) ∧ vs.length = 3 ∧ News h L h₇ ((D, listOf vs.toArray 0) :: [(I, rngIt ((p : Int) + 1) (((nn + 1 : Nat) : Int) - 1) 1), (rr, rngO 3 t2 t3 t4)]) :=
        ⟨_, trip_at hp3, rfl, N⟩
      refine l_get (N _ (.head _)).1 (by lia) (by lia) (v := .str (trip p) tt) (by simpa using hvs) ?_
      refine wpAny_BinOp (wpAny_BinOp ?_)
      walk_at "nm"
      refine e_int (o_modE (c := ((fig n p % 2 : Nat) : Int)) (by decide) (by rw [fmod_pos (by decide)]; rfl) ?_)
      refine wpAny_BinOp (e_int ?_)
      walk_at "nm"
      refine o_mulE (c := ((2 * abv n p : Nat) : Int)) (.of_left (by decide +kernel)) (by simp) ?_
      refine o_addE (c := ((fig n p % 2 + 2 * abv n p : Nat) : Int)) (by simp) ?_
      have htl := trip_len hp3
      refine t_item (by rw [htl]; lia) (by lia) fun k5 => ?_
      refine o_icat (by rw [size_cat, size_cat, len_item, len_item, len_item, hl]; lia) fun t7 k6 => ?_
      refine sto F N fun h₈ F N => ?_
      refine s_nil (hP .next _ ⟨nn, by lia, _, _, _, I, rr, t2, t3, t4, p + 1, _, rfl, rfl, by lia, F, news_perm N ?_, hrI, by walk_at "lk", by walk_at "lk"⟩)
      rw [show ((p + 1 : Nat) : Int) = (p : Int) + 1 by lia, show ((nn : Nat) : Int) = ((nn + 1 : Nat) : Int) - 1 by lia]
      exact fun q hq => .tail _ hq
  case done =>
    rintro s' ⟨h', m, tk, u, rfl, F, m2⟩
    refine s_ret ?_
    walk_at "nm"
    exact hQ _ _ _ F.keep (frame_size F hL)
end
end Mine
namespace Mine
local macro_rules | `(tactic| walk_at "lk") => `(tactic| first | with_reducible exact upd_eq | (refine upd_ne (by rfl) ?_; walk_at "lk") | with_reducible assumption | rfl)
local macro_rules | `(tactic| walk_at "nm") => `(tactic| refine nmL (by with_reducible assumption) (by walk_at "lk") ?_)
theorem bor_nat (a b : Nat) : Builtin.bitOr (a : Int) (b : Int) = ((a ||| b : Nat) : Int) := by
  rw [bitOr_and, band_nat]
  have h := nat_or_add_and a b
  lia
/-- what a deed makes of a mode -/
def stepM (d : Deed) (m : Nat) : Nat :=
  if d.kind = 1 then m - (m &&& d.bits.toNat) else if d.kind = 3 then (m &&& 61440) + d.bits.toNat else if d.kind = 4 then (m &&& 4095) + d.bits.toNat % 16 * 4096 else m ||| d.bits.toNat
def startM (nm : Int) : Nat := if nm = 0 then 33188 else 16877
def modeOf (ds : List Deed) (nm : Int) : Nat := ds.foldl (fun m d => if d.name = nm then stepM d m else m) (startM nm)
def logOf (ds : List Deed) : List (Deed × Str) := ds.mapIdx fun k d => (d, fileText (modeOf (ds.take (k + 1)) d.name))
def entryD (e : Deed × Str) : PyData := .tuple [.int e.1.hour, .int e.1.place, .int e.1.stage, .str e.2]
def GoodD (d : Deed) : Prop := (d.name = 0 ∨ d.name = 1) ∧ 0 ≤ d.bits ∧ d.bits < 4096

theorem modeOf_succ {ds : List Deed} {i : Nat} {d : Deed} (h : ds[i]? = some d) (nm : Int) : modeOf (ds.take (i + 1)) nm = if d.name = nm then stepM d (modeOf (ds.take i) nm) else modeOf (ds.take i) nm := by
  unfold modeOf; rw [List.take_succ, h]; simp [List.foldl_append]
theorem logOf_take {ds : List Deed} {i : Nat} {d : Deed} (h : ds[i]? = some d) : (logOf ds).take (i + 1) = (logOf ds).take i ++ [(d, fileText (modeOf (ds.take (i + 1)) d.name))] := by
  have : (logOf ds)[i]? = some (d, fileText (modeOf (ds.take (i + 1)) d.name)) := by simp [logOf, h]
  rw [List.take_succ, this]; rfl

/-! the rows of a log -/
def EntIn (led : List (Addr × Obj)) (v : Value) (e : Deed × Str) : Prop := ∃ a t0 t1 t2 t3, v = .ref a ∧ (a, tupOf [.int e.1.hour t0, .int e.1.place t1, .int e.1.stage t2, .str e.2 t3]) ∈ led
inductive EntsIn (led : List (Addr × Obj)) : List Value → List (Deed × Str) → Prop
  | nil : EntsIn led [] []
  | cons {v vs e es} : EntIn led v e → EntsIn led vs es → EntsIn led (v :: vs) (e :: es)
theorem EntsIn.more {led led' : List (Addr × Obj)} (k : ∀ p ∈ led, p ∈ led') : ∀ {vs es}, EntsIn led vs es → EntsIn led' vs es
  | _, _, .nil => .nil
  | _, _, .cons ⟨a, t0, t1, t2, t3, e, hm⟩ r => .cons ⟨a, t0, t1, t2, t3, e, k _ hm⟩ (r.more k)
theorem EntsIn.snoc {led : List (Addr × Obj)} {v e} (x : EntIn led v e) : ∀ {vs es}, EntsIn led vs es → EntsIn led (vs ++ [v]) (es ++ [e])
  | _, _, .nil => .cons x .nil
  | _, _, .cons y r => .cons y (r.snoc x)
theorem EntsIn.length {led : List (Addr × Obj)} : ∀ {vs es}, EntsIn led vs es → vs.length = es.length
  | _, _, .nil => rfl
  | _, _, .cons _ r => by simp [r.length]
theorem reads_end {h : Heap} {vs : List Value} {ds : List PyData} {as : List Addr} {v : Value} {d : PyData} {bs : List Addr} (r : Reads h v d bs) : ∀ {vs ds as}, ReadsAll h vs ds as → ∃ cs, ReadsAll h (vs ++ [v]) (ds ++ [d]) cs
  | _, _, _, .nil => ⟨_, .cons r .nil⟩
  | _, _, _, .cons x y => let ⟨_, z⟩ := reads_end (vs := []) (ds := []) (as := []) r y; ⟨_, .cons x z⟩
theorem EntsIn.reads {g : Heap} {L : Addr} {h : Heap} {led : List (Addr × Obj)} (N : News g L h led) : ∀ {vs es}, EntsIn led vs es → ∃ as, ReadsAll h vs (es.map entryD) as
  | _, _, .nil => ⟨_, .nil⟩
  | _, _, .cons ⟨a, t0, t1, t2, t3, e, hm⟩ r => by
    obtain ⟨as, z⟩ := r.reads N
    subst e
    exact ⟨_, .cons (.tuple (N _ hm).1 rfl rfl (.cons (.int _ _) (.cons (.int _ _) (.cons (.int _ _) (.cons (.str _ _) .nil))))) z⟩

theorem pick_init (vs : List Value) (v : Value) : slicePick (vs ++ [v]).toArray none (some (-1)) none = vs.toArray := by
  have e := kmk_pick_nat (vs ++ [v]).toArray (lo := none) (hi := some (-1)) (a := 0) (b := vs.length) (by
    simp only [sliceBounds, Option.getD_none, show (1 : Int) > 0 by decide, if_true, List.size_toArray, List.length_append, List.length_singleton]
    congr 1
    congr 1
    rw [if_pos (by decide)]; lia)
  rw [e]; simp
theorem pick_last (vs : List Value) (v : Value) : slicePick (vs ++ [v]).toArray (some (-1)) none none = [v].toArray := by
  have e := kmk_pick_nat (vs ++ [v]).toArray (lo := some (-1)) (hi := none) (a := vs.length) (b := vs.length + 1) (by
    simp only [sliceBounds, Option.getD_none, show (1 : Int) > 0 by decide, if_true, List.size_toArray, List.length_append, List.length_singleton]
    congr 1
    rw [if_pos (by decide)]; lia)
  rw [e]; simp

section
variable {prog : Program} {w : World} {A : Around} {E : Value → Shared → Prop} {h : Heap} {gs : Array GenState} {dr : Drawn} {t : Nat} {os : OsState} {Q : Value → Shared → Prop} {k : Nat}
theorem two_get {nm : Int} {mv : Nat} {u0 u1 : Tok} (f : Int → Nat) (hn : nm = 0 ∨ nm = 1) (h : f nm = mv) : ∃ um, [Value.int (f 0 : Nat) u0, .int (f 1 : Nat) u1][nm.toNat]? = some (.int (mv : Nat) um) := by
  rcases hn with rfl | rfl <;> subst h <;> exact ⟨_, rfl⟩
theorem two_set {nm : Int} {mv : Nat} {u0 u1 um : Tok} (f g : Int → Nat) (st : Nat → Nat) (hn : nm = 0 ∨ nm = 1) (h0 : g 0 = if nm = 0 then st (f 0) else f 0) (h1 : g 1 = if nm = 1 then st (f 1) else f 1) (h : f nm = mv) :
    ∃ v0 v1, [Value.int (f 0 : Nat) u0, .int (f 1 : Nat) u1].set nm.toNat (.int (st mv : Nat) um) = [Value.int (g 0 : Nat) v0, .int (g 1 : Nat) v1] := by
  rcases hn with rfl | rfl <;> subst h
  · rw [h0, h1, if_pos rfl, if_neg (by decide)]; exact ⟨_, _, rfl⟩
  · rw [h0, h1, if_pos rfl, if_neg (by decide)]; exact ⟨_, _, rfl⟩
inductive E5_I1 (gs : Array GenState) (dr : Drawn) (os : OsState) (co : List AD) (h : Heap) (L : Addr) (M : Addr) (K : Addr) (C : Addr) (itv : Value) (nn : Nat) (s' : Shared) : Prop
  | mk (h' : Heap) (m : Str → Option Value) (tk : Nat) (I : Addr) (ob : Obj) (S : Addr) (u0 : Tok) (u1 : Tok) (e1 : Nat) (e2 : Nat) (vs : List Value) (tups : List (Addr × Obj)) (i : Nat) : (s' = ⟨h', gs, dr, tk, os⟩) → (itv = .ref I) → (nn + i = co.length) → (Fr h L h' m) → (News h L h' ((I, ob) :: (M, listOf [Value.int (modeOf ((co.map (·.2)).take i) 0 : Nat) u0, .int (modeOf ((co.map (·.2)).take i) 1 : Nat) u1].toArray e1) :: (K, listOf vs.toArray e2) :: (S, listOf (refs co).toArray 0) :: tups)) → (isLI ob S i) → ((M ≠ I ∧ K ≠ I ∧ S ≠ I ∧ K ≠ M ∧ S ≠ M ∧ S ≠ K)) → ((∀ q ∈ tups, q.1 ≠ I ∧ q.1 ≠ M ∧ q.1 ≠ K)) → (EntsIn tups vs ((logOf (co.map (·.2))).take i)) → (m (Str.ofString "course") = some (.ref C)) → (m (Str.ofString "modes") = some (.ref M)) → (m (Str.ofString "log") = some (.ref K)) → E5_I1 gs dr os co h L M K C itv nn s'
inductive E5_I2 (gs : Array GenState) (dr : Drawn) (os : OsState) (h : Heap) (L : Addr) (K : Addr) (co : List AD) (C : Addr) (s' : Shared) : Prop
  | mk (h' : Heap) (m : Str → Option Value) (tk : Nat) (e2 : Nat) (vs : List Value) (tups : List (Addr × Obj)) : (s' = ⟨h', gs, dr, tk, os⟩) → (Fr h L h' m) → (News h L h' ((K, listOf vs.toArray e2) :: tups)) → (EntsIn tups vs (logOf (co.map (·.2)))) → (m (Str.ofString "course") = some (.ref C)) → (m (Str.ofString "log") = some (.ref K)) → E5_I2 gs dr os h L K co C s'
inductive E5_I3 (gs : Array GenState) (dr : Drawn) (os : OsState) (h : Heap) (L : Addr) (I : Addr) (ob' : Obj) (M : Addr) (co : List AD) (i : Nat) (u0 : Tok) (u1 : Tok) (e1 : Nat) (K : Addr) (vs : List Value) (e2 : Nat) (S : Addr) (tups : List (Addr × Obj)) (d : Deed) (mv : Nat) (C : Addr) (t0 : Tok) (t1 : Tok) (t2 : Tok) (t3 : Tok) (s' : Shared) : Prop
  | mk (h' : Heap) (m' : Str → Option Value) (tk : Nat) (um : Tok) : (s' = ⟨h', gs, dr, tk, os⟩) → (Fr h L h' m') → (News h L h' ((I, ob') :: (M, listOf [Value.int (modeOf ((co.map (·.2)).take i) 0 : Nat) u0, .int (modeOf ((co.map (·.2)).take i) 1 : Nat) u1].toArray e1) :: (K, listOf vs.toArray e2) :: (S, listOf (refs co).toArray 0) :: tups)) → (m' (Str.ofString "mode") = some (.int (stepM d mv : Nat) um)) → (m' (Str.ofString "course") = some (.ref C)) → (m' (Str.ofString "modes") = some (.ref M)) → (m' (Str.ofString "log") = some (.ref K)) → (m' (Str.ofString "hour") = some (.int d.hour t0)) → (m' (Str.ofString "place") = some (.int d.place t1)) → (m' (Str.ofString "stage") = some (.int d.stage t2)) → (m' (Str.ofString "name") = some (.int d.name t3)) → E5_I3 gs dr os h L I ob' M co i u0 u1 e1 K vs e2 S tups d mv C t0 t1 t2 t3 s'
theorem log_call {C : Addr} {co : List AD} {tn : Tok} (G : Gd w h) (hC : h.IsList C (refs co ++ [Value.str (Str.ofString "none left") tn]).toArray) (hD : DeedsAt h co) (hg : ∀ p ∈ co, GoodD p.2) (hlen : co.length ≤ 100) (r : Room A (k + 3))
    (hQ : ∀ R h' tk as, Keep h h' → h.objs.size ≤ h'.objs.size → Reads h' (.ref R) (.list ((logOf (co.map (·.2))).map entryD ++ [.str (Str.ofString "none left")])) as → Q (.ref R) ⟨h', gs, dr, tk, os⟩) :
    wpAny (model prog w) A (call (.ref 145) [.ref C]) Q E ⟨h, gs, dr, t, os⟩ := by
  refine callw G (fun _ _ e => e) (Nat.le_refl _) (k := k + 2) r (f := 145) (binds := [(Str.ofString "course", .ref C)]) rfl rfl rfl (locs rfl) fun L h₁ A' E' tk hL R F hk₁ => ?_
  have N : News h L h₁ [] := News.nil
  have hCl : ∀ {h' m}, Fr h L h' m → h'.IsList C (refs co ++ [Value.str (Str.ofString "none left") tn]).toArray := fun F => let ⟨o, ho, x⟩ := hC; ⟨o, F.keep _ _ ho, x⟩
  refine s_asg (List_ (wpAny_items_cons (e_int (wpAny_items_cons (e_int (wpAny_items_nil (n_list F N (by simp) fun M h₂ F N _ _ _ => ?_)))))))
  refine sto F N fun h₂ F N => ?_
  refine s_asg (List_ (wpAny_items_nil (n_list F N (by simp) fun K h₂ F N hK _ _ => ?_)))
  refine sto F N fun h₂ F N => ?_
  refine s_forA (E5_I1 gs dr os co h L M K C)
    (E5_I2 gs dr os h L K co C)
    (E5_I2 gs dr os h L K co C) ?iter ?turn ?els ?done
  case iter =>
    refine Subscript_ ?_
    walk_at "nm"
    refine wpAny_Slice (evalPart_none_step (evalPart_some_step (wpAny_UnaryOp (e_int (o_neg (evalPart_none_step ?_))))))
    refine l_slice F N (hCl F) .none (.int _ _) (pick_init _ _) (by simp [refs]; lia) fun S h₃ F N hS => ?_
    refine i_list F N ⟨_, (N _ (.head _)).1, rfl, _, rfl⟩ fun I ob h₄ F N ho hI hSI => ?_
    obtain ⟨u0, u1, N⟩ : ∃ u0 u1, News h L h₄ [(I, ob), (S, listOf (refs co).toArray 0), (K, listOf [].toArray 0), (M, listOf [Value.int (33188 : Nat) u0, .int (16877 : Nat) u1].toArray 0)] := ⟨_, _, N⟩
    refine ⟨co.length, h₄, _, _, I, ob, S, u0, u1, 0, 0, [], [], 0, rfl, rfl, rfl, F, news_perm N ?_, ho, ⟨hI _ (.tail _ (.tail _ (.head _))), hI _ (.tail _ (.head _)), hSI, fun q => hK _ (.head _) q.symm, fun q => hS _ (.tail _ (.head _)) q.symm, fun q => hS _ (.head _) q.symm⟩, by simp, .nil, by walk_at "lk", by walk_at "lk", by walk_at "lk"⟩
    intro q hq; simp only [List.mem_cons] at hq ⊢; rcases hq with h | h | h | h | h
    · exact .inl h
    · exact .inr (.inr (.inr (.inl h)))
    · exact .inr (.inr (.inl h))
    · exact .inr (.inl h)
    · simp at h
  case turn =>
    rintro itv nn s' ⟨h', m, tk, I, ob, S, u0, u1, e1, e2, vs, tups, i, rfl, rfl, hnn, F, N, ho, ⟨a1, a2, a3, a4, a5, a6⟩, htu, hent, m1, m2, m3⟩
    have hrI : ∀ {xs ys zs : Obj}, ∀ p ∈ (M, xs) :: (K, ys) :: (S, zs) :: tups, p.1 ≠ I := neC a1 (neC a2 (neC a3 fun p hp => (htu p hp).1))
    have hSl : ∀ {h'' : Heap} {x y z}, News h L h'' (x :: y :: z :: (S, listOf (refs co).toArray 0) :: tups) → h''.IsList S (refs co).toArray := fun N => ⟨_, (N _ (.tail _ (.tail _ (.tail _ (.head _))))).1, rfl, _, rfl⟩
    cases nn with
    | zero =>
      have hi : i = co.length := by lia
      subst hi
      refine x_list0 R F N ho hrI (hSl N) (by simp [refs]) fun h'' F N => ?_
      refine ⟨_, _, _, e2, vs, tups, rfl, F, news_perm N ?_, ?_, m1, m3⟩
      · intro q hq; simp only [List.mem_cons] at hq ⊢; rcases hq with h | h
        · exact .inr (.inl h)
        · exact .inr (.inr (.inr h))
      · rwa [List.take_of_length_le (by simp [logOf])] at hent
    | succ nn =>
      have hi : i < co.length := by lia
      have hx : co[i]? = some co[i] := by simp [hi]
      generalize co[i] = x at hx
      obtain ⟨xa, d⟩ := x
      have hxm := List.mem_of_getElem? hx
      have hd : (co.map (·.2))[i]? = some d := by simp [hx]
      obtain ⟨hname, hb0, hb1⟩ : GoodD d := hg _ hxm
      refine x_list F N ho hrI (hSl N) (v := .ref xa) (by simp [refs, hx]) fun ob' h'' F N ho' => ?_
      refine wpAny_letOwnedTupleGo_listiter (s := ⟨h'', gs, dr, tk, os⟩) ⟨ob', (N _ (.head _)).1, ho'⟩ ?_
      obtain ⟨vals, ht, hiv⟩ : DeedAt h xa d := hD _ hxm
      obtain ⟨t0, t1, t2, t3, t4, t5, t6, rfl⟩ := deed_vals hiv
      refine a_tup F N (ht.keeps F.keep) R rfl rfl fun h₂ F N => ?_
      refine assignInOrder_cons (wpAny_assign_Name (sto F N fun h₂ F N => ?_))
      refine assignInOrder_cons (wpAny_assign_Name (sto F N fun h₂ F N => ?_))
      refine assignInOrder_cons (wpAny_assign_Name (sto F N fun h₂ F N => ?_))
      refine assignInOrder_cons (wpAny_assign_Name (sto F N fun h₂ F N => ?_))
      refine assignInOrder_cons (wpAny_assign_Name (sto F N fun h₂ F N => ?_))
      refine assignInOrder_cons (wpAny_assign_Name (sto F N fun h₂ F N => ?_))
      refine assignInOrder_cons (wpAny_assign_Name (sto F N fun h₂ F N => ?_))
      refine assignInOrder_nil ?_
      refine wpAny_post fun P hP => ?_
      have hbn : d.bits = ((d.bits.toNat : Nat) : Int) := by lia
      generalize hmv : modeOf ((co.map (·.2)).take i) d.name = mv
      obtain ⟨um, hget⟩ : ∃ um, [Value.int (modeOf ((co.map (·.2)).take i) 0 : Nat) u0, .int (modeOf ((co.map (·.2)).take i) 1 : Nat) u1][d.name.toNat]? = some (.int (mv : Nat) um) := two_get (modeOf ((co.map (·.2)).take i)) hname hmv
      refine s_asg (Subscript_ ?_)
      walk_at "nm"
      walk_at "nm"
      refine l_get (N _ (.tail _ (.head _))).1 (by lia) (by lia) hget ?_
      refine sto F N fun h₃ F N => ?_
      refine s_ifJ (E5_I3 gs dr os h L I ob' M co i u0 u1 e1 K vs e2 S tups d mv C t0 t1 t2 t3) ?ifs ?rest
      case ifs =>
        refine wpAny_isTrue_Compare1 ?_
        walk_at "nm"
        refine e_int (eq_int (wpAny_truthy_bool (ite_b (fun hb => ?_) fun hb => ?_)))
        · have k1 : d.kind = 1 := by simpa using hb
          refine s_asg (wpAny_BinOp ?_)
          walk_at "nm"
          refine wpAny_BinOp ?_
          walk_at "nm"
          walk_at "nm"
          refine o_andE (c := ((mv &&& d.bits.toNat : Nat) : Int)) (by rw [← band_nat, ← hbn]) (o_subE (c := ((stepM d mv : Nat) : Int)) ?_ ?_)
          · have := Nat.and_le_left (n := mv) (m := d.bits.toNat)
            simp only [stepM, k1, if_true]; lia
          refine sto F N fun h₄ F N => ?_
          exact s_nil ⟨rfl, _, _, _, _, rfl, F, N, by walk_at "lk", by walk_at "lk", by walk_at "lk", by walk_at "lk", by walk_at "lk", by walk_at "lk", by walk_at "lk", by walk_at "lk"⟩
        have k1 : d.kind ≠ 1 := by simpa using hb
        refine s_if (wpAny_isTrue_Compare1 ?_)
        walk_at "nm"
        refine e_int (eq_int (wpAny_truthy_bool (ite_b (fun hb => ?_) fun hb => ?_)))
        · have k3 : d.kind = 3 := by simpa using hb
          refine s_asg (wpAny_BinOp ?_)
          refine Call_ (nmG F G (v := .ref 77) rfl (c_def rfl (wpAny_items_cons ?_)))
          walk_at "nm"
          refine wpAny_items_nil ⟨G.K.keeps F.keep, ifmt_call (k := 0) (G.keeps F.keep) (R.less (by lia)) fun h₄ tk u hk _ => ?_⟩
          have F := kept_fr F hk
          have N := kept_news N hk
          walk_at "nm"
          refine o_addE (c := ((stepM d mv : Nat) : Int)) ?_ ?_
          · simp only [stepM, k3, if_true, if_neg (show ¬ ((3 : Int) = 1) by decide)]; lia
          refine sto F N fun h₄ F N => ?_
          exact s_nil (then_next (s_nil ⟨rfl, _, _, _, _, rfl, F, N, by walk_at "lk", by walk_at "lk", by walk_at "lk", by walk_at "lk", by walk_at "lk", by walk_at "lk", by walk_at "lk", by walk_at "lk"⟩))
        have k3 : d.kind ≠ 3 := by simpa using hb
        refine s_if (wpAny_isTrue_Compare1 ?_)
        walk_at "nm"
        refine e_int (eq_int (wpAny_truthy_bool (ite_b (fun hb => ?_) fun hb => ?_)))
        · have k4 : d.kind = 4 := by simpa using hb
          refine s_asg (wpAny_BinOp ?_)
          refine Call_ (nmG F G (v := .ref 70) rfl (c_def rfl (wpAny_items_cons ?_)))
          walk_at "nm"
          refine wpAny_items_nil ⟨G.K.keeps F.keep, imode_call (k := 0) (G.keeps F.keep) (R.less (by lia)) fun h₄ tk u hk _ => ?_⟩
          have F := kept_fr F hk
          have N := kept_news N hk
          refine wpAny_BinOp (wpAny_BinOp ?_)
          walk_at "nm"
          refine e_int (o_modE (by decide) (c := ((d.bits.toNat % 16 : Nat) : Int)) (by rw [fmod_pos (by decide)]; lia) (e_int (o_mulE (c := ((d.bits.toNat % 16 * 4096 : Nat) : Int)) (.of_right (by decide +kernel)) (by simp) ?_)))
          refine o_addE (c := ((stepM d mv : Nat) : Int)) ?_ ?_
          · simp only [stepM, k4, if_true, if_neg (show ¬ ((4 : Int) = 1) by decide), if_neg (show ¬ ((4 : Int) = 3) by decide)]; lia
          refine sto F N fun h₄ F N => ?_
          exact s_nil (then_next (s_nil (then_next (s_nil ⟨rfl, _, _, _, _, rfl, F, N, by walk_at "lk", by walk_at "lk", by walk_at "lk", by walk_at "lk", by walk_at "lk", by walk_at "lk", by walk_at "lk", by walk_at "lk"⟩))))
        have k4 : d.kind ≠ 4 := by simpa using hb
        refine s_asg (wpAny_BinOp ?_)
        walk_at "nm"
        walk_at "nm"
        refine o_orE (c := ((stepM d mv : Nat) : Int)) ?_ ?_
        · rw [hbn, bor_nat]; simp only [stepM, if_neg k1, if_neg k3, if_neg k4, Int.toNat_natCast]
        refine sto F N fun h₄ F N => ?_
        exact s_nil (then_next (s_nil (then_next (s_nil ⟨rfl, _, _, _, _, rfl, F, N, by walk_at "lk", by walk_at "lk", by walk_at "lk", by walk_at "lk", by walk_at "lk", by walk_at "lk", by walk_at "lk", by walk_at "lk"⟩))))
      case rest =>
        rintro s' ⟨h', m', tk, um, rfl, F, N, z1, z2, z3, z4, z5, z6, z7, z8⟩
        refine s_sub ?_
        walk_at "nm"
        walk_at "nm"
        walk_at "nm"
        have N := news_perm (rest' := (M, listOf [Value.int (modeOf ((co.map (·.2)).take i) 0 : Nat) u0, .int (modeOf ((co.map (·.2)).take i) 1 : Nat) u1].toArray e1) :: (I, ob') :: (K, listOf vs.toArray e2) :: (S, listOf (refs co).toArray 0) :: tups) N (by
          intro q hq; simp only [List.mem_cons] at hq ⊢; rcases hq with h | h | h | h | h
          · exact .inr (.inl h)
          · exact .inl h
          · exact .inr (.inr (.inl h))
          · exact .inr (.inr (.inr (.inl h)))
          · exact .inr (.inr (.inr (.inr h))))
        refine l_set F N (neC a1.symm (neC a4 (neC a5 fun p hp => (htu p hp).2.1))) (by lia) (by lia) (by show d.name < 2; lia) fun h₄ F N => ?_
        refine s_expr (MethodCall_ ?_)
        walk_at "nm"
        refine l_meth (N _ (.tail _ (.tail _ (.head _)))).1 PySem.F.slot_list_append PySem.F.type_list_append (c_blt (wpAny_items_cons (Tuple_ (wpAny_items_cons ?_))))
        walk_at "nm"
        refine wpAny_items_cons ?_
        walk_at "nm"
        refine wpAny_items_cons ?_
        walk_at "nm"
        refine wpAny_items_cons (Call_ (nmG F G (v := .ref 117) rfl (c_def rfl (wpAny_items_cons ?_))))
        walk_at "nm"
        refine wpAny_items_nil ⟨G.K.keeps F.keep, filemode_call (k := 0) (G.keeps F.keep) (R.less (by lia)) fun h₅ tk u hk _ => ?_⟩
        have F := kept_fr F hk
        have N := kept_news N hk
        refine wpAny_items_nil (n_tup F N (by simp) fun T h₆ F N hT _ _ => wpAny_items_nil ?_)
        have hTK : T ≠ K := fun q => hT _ (.tail _ (.tail _ (.head _))) q.symm
        have hTM : T ≠ M := fun q => hT _ (.head _) q.symm
        have hTI : T ≠ I := fun q => hT _ (.tail _ (.head _)) q.symm
        have N := news_perm (rest' := (K, listOf vs.toArray e2) :: (T, tupOf [.int d.hour t0, .int d.place t1, .int d.stage t2, .str (fileText (stepM d mv)) u]) :: (M, listOf ([Value.int (modeOf ((co.map (·.2)).take i) 0 : Nat) u0, .int (modeOf ((co.map (·.2)).take i) 1 : Nat) u1].set d.name.toNat (.int (stepM d mv : Nat) um)).toArray e1) :: (I, ob') :: (S, listOf (refs co).toArray 0) :: tups) N (by
          intro q hq; simp only [List.mem_cons] at hq ⊢; rcases hq with h | h | h | h | h | h
          · exact .inr (.inr (.inr (.inl h)))
          · exact .inl h
          · exact .inr (.inl h)
          · exact .inr (.inr (.inl h))
          · exact .inr (.inr (.inr (.inr (.inl h))))
          · exact .inr (.inr (.inr (.inr (.inr h)))))
        have hvl : vs.length ≤ 100 := by have := hent.length; simp [logOf] at this; lia
        refine l_app F N (neC hTK (neC a4.symm (neC a2.symm (neC a6 fun p hp => (htu p hp).2.2)))) (by lia) fun h₇ F N => ?_
        have hs0 := modeOf_succ hd 0
        have hs1 := modeOf_succ hd 1
        have hsn := modeOf_succ hd d.name
        rw [if_pos rfl, hmv] at hsn
        obtain ⟨v0, v1, hset⟩ : ∃ v0 v1, [Value.int (modeOf ((co.map (·.2)).take i) 0 : Nat) u0, .int (modeOf ((co.map (·.2)).take i) 1 : Nat) u1].set d.name.toNat (.int (stepM d mv : Nat) um) =
            [Value.int (modeOf ((co.map (·.2)).take (i + 1)) 0 : Nat) v0, .int (modeOf ((co.map (·.2)).take (i + 1)) 1 : Nat) v1] :=
          two_set (modeOf ((co.map (·.2)).take i)) (modeOf ((co.map (·.2)).take (i + 1))) (stepM d) hname hs0 hs1 hmv
        rw [hset] at N
        refine s_nil (hP .next _ ⟨nn, by lia, _, _, _, I, ob', S, v0, v1, e1, e2 + 1, vs ++ [.ref T], (T, tupOf [.int d.hour t0, .int d.place t1, .int d.stage t2, .str (fileText (stepM d mv)) u]) :: tups, i + 1, rfl, rfl, by lia, F, news_perm N ?_, ho', ⟨a1, a2, a3, a4, a5, a6⟩, ?_, ?_, z2, z3, z4⟩)
        · intro q hq; simp only [List.mem_cons] at hq ⊢; rcases hq with h | h | h | h | h | h
          · exact .inr (.inr (.inr (.inl h)))
          · exact .inr (.inr (.inl h))
          · exact .inl h
          · exact .inr (.inr (.inr (.inr (.inl h))))
          · exact .inr (.inl h)
          · exact .inr (.inr (.inr (.inr (.inr h))))
        · intro q hq
          rcases List.mem_cons.mp hq with rfl | hq
          · exact ⟨hTI, hTM, hTK⟩
          · exact htu q hq
        · rw [logOf_take hd, hsn]
          exact EntsIn.snoc (e := (d, fileText (stepM d mv))) ⟨T, t0, t1, t2, u, rfl, .head _⟩ (hent.more fun p hp => .tail _ hp)
  case els =>
    rintro s' hs
    exact s_nil ⟨rfl, hs⟩
  case done =>
    rintro s' ⟨h', m, tk, e2, vs, tups, rfl, F, N, hent, m1, m3⟩
    refine s_ret (wpAny_BinOp ?_)
    walk_at "nm"
    refine Subscript_ ?_
    walk_at "nm"
    refine wpAny_Slice (evalPart_some_step (wpAny_UnaryOp (e_int (o_neg (evalPart_none_step (evalPart_none_step ?_))))))
    refine l_slice F N (hCl F) (.int _ _) .none (pick_last _ _) (by simp [refs]; lia) fun S h₃ F N hS => ?_
    have hvl := hent.length
    refine l_add F N ⟨_, (N _ (.tail _ (.head _))).1, rfl, _, rfl⟩ ⟨_, (N _ (.head _)).1, rfl, _, rfl⟩ (by simp [logOf] at hvl; simp; lia) fun X h₄ F N hX => ?_
    obtain ⟨as, ra⟩ := hent.reads (news_perm N fun p hp => .tail _ (.tail _ (.tail _ hp)))
    obtain ⟨bs, rb⟩ := reads_end (vs := []) (ds := []) (as := []) (.str (Str.ofString "none left") tn) ra
    exact hQ X h₄ _ _ F.keep (frame_size F hL) (.list (N _ (.head _)).1 rfl rfl (by simpa using rb))
end
end Mine
namespace Mine
/-! the tree of questions of a sort, under a pure order -/
def Ok {α : Type} (ans : Nat → Nat → Bool) (n : Nat) (Q : α → Prop) : KasT α → Prop
  | .ret a => Q a
  | .ask i j k => i < n ∧ j < n ∧ Ok ans n Q (k (ans i j))
theorem ok_bind {α β : Type} {ans : Nat → Nat → Bool} {n : Nat} {Q : β → Prop} {f : α → KasT β} : ∀ {t : KasT α}, Ok ans n (fun a => Ok ans n Q (f a)) t → Ok ans n Q (t.bind f)
  | .ret _, h => h
  | .ask _ _ k, h => ⟨h.1, h.2.1, ok_bind (t := k _) h.2.2⟩
theorem ok_mono {α : Type} {ans : Nat → Nat → Bool} {n : Nat} {Q Q' : α → Prop} (hq : ∀ a, Q a → Q' a) : ∀ {t : KasT α}, Ok ans n Q t → Ok ans n Q' t
  | .ret _, h => hq _ h
  | .ask _ _ k, h => ⟨h.1, h.2.1, ok_mono hq (t := k _) h.2.2⟩
theorem ok_wp {α : Type} {ans : Nat → Nat → Bool} {n : Nat} {Q : α → Prop} {cmp : Nat → Nat → (Bool → Shared → Prop) → Shared → Prop} {s : Shared} {R : α → Shared → Prop} (hc : ∀ i j C, i < n → j < n → C (ans i j) s → cmp i j C s)
    (hr : ∀ a, Q a → R a s) : ∀ {t : KasT α}, Ok ans n Q t → t.kasWp cmp R s
  | .ret a, h => hr a h
  | .ask i j k, h => hc i j _ h.1 h.2.1 (ok_wp hc hr (t := k _) h.2.2)

section
variable {ans : Nat → Nat → Bool} {n : Nat} {p : Array Nat}
def PG (n : Nat) (p : Array Nat) : Prop := p.toList.Perm (List.range n)
abbrev Kx (p : Array Nat) (i : Nat) : Nat := p.getD i 0
theorem PG.size (h : PG n p) : p.size = n := by have := h.length_eq; simpa using this
theorem Kx_get {i : Nat} (h : i < p.size) : Kx p i = p[i] := by simp [Kx, Array.getD, h]
theorem PG.lt (h : PG n p) {i : Nat} (hi : i < n) : Kx p i < n := by
  have hs := h.size
  rw [Kx_get (by lia)]
  have : p[i] ∈ p.toList := Array.getElem_mem_toList _
  exact List.mem_range.mp (h.mem_iff.mp this)
theorem PG.ne (h : PG n p) {i j : Nat} (hi : i < n) (hj : j < n) (hij : i ≠ j) : Kx p i ≠ Kx p j := by
  have hs := h.size
  rw [Kx_get (by lia), Kx_get (by lia)]
  have hn : p.toList.Nodup := h.nodup_iff.mpr List.nodup_range
  intro e
  have hp := List.pairwise_iff_getElem.mp hn
  rcases Nat.lt_or_gt_of_ne hij with hl | hl
  · exact hp i j (by simp; lia) (by simp; lia) hl (by simpa using e)
  · exact hp j i (by simp; lia) (by simp; lia) hl (by simpa using e.symm)
structure TO (ans : Nat → Nat → Bool) (n : Nat) : Prop where
  o : Ord ans
  d : ∀ i j, i < n → j < n → i ≠ j → ans i j = false → ans j i = true
def SoT (ans : Nat → Nat → Bool) (p : Array Nat) (b : Nat) : Prop := ∀ i j, i ≤ j → j < b → ans (Kx p j) (Kx p i) = false
def DeT (ans : Nat → Nat → Bool) (p : Array Nat) (b : Nat) : Prop := ∀ i j, i < j → j < b → ans (Kx p j) (Kx p i) = true
theorem SoT.succ (t : TO ans n) {b : Nat} (hb : 1 ≤ b) (h : SoT ans p b) (hl : ans (Kx p b) (Kx p (b - 1)) = false) : SoT ans p (b + 1) := by
  intro i j hij hj
  by_cases e : j = b
  · subst e
    by_cases e2 : i = j
    · subst e2; exact t.o.irrefl _
    · exact t.o.ntrans _ _ _ (h i (j - 1) (by lia) (by lia)) hl
  · exact h i j hij (by lia)
theorem lt_trans' (o : Ord ans) {a b c : Nat} (h1 : ans a b = true) (h2 : ans b c = true) : ans a c = true := by
  cases h : ans a c with
  | true => rfl
  | false =>
    have := o.ntrans c a b h (o.asymm _ _ h1)
    rw [this] at h2; cases h2
theorem DeT.succ (t : TO ans n) {b : Nat} (hb : 1 ≤ b) (h : DeT ans p b) (hl : ans (Kx p b) (Kx p (b - 1)) = true) : DeT ans p (b + 1) := by
  intro i j hij hj
  by_cases e : j = b
  · subst e
    by_cases e2 : i = j - 1
    · subst e2; exact hl
    · exact lt_trans' t.o hl (h i (j - 1) (by lia) (by lia))
  · exact h i j hij (by lia)

theorem asc_ok (t : TO ans n) (g : PG n p) : ∀ (f a : Nat), 1 ≤ a → a + f ≤ n → SoT ans p a →
    Ok ans n (fun m => a ≤ m ∧ m ≤ a + f ∧ SoT ans p m ∧ (m < a + f → ans (Kx p m) (Kx p (m - 1)) = true)) (kas_asc p f a)
  | 0, a, _, _, hs => ⟨Nat.le_refl _, Nat.le_refl _, hs, fun h => absurd h (by lia)⟩
  | f + 1, a, h1, hn, hs => by
    refine ⟨g.lt (by lia), g.lt (by lia), ?_⟩
    cases hc : ans (Kx p a) (Kx p (a - 1)) with
    | true => simp only [if_true]; exact ⟨Nat.le_refl _, by lia, hs, fun _ => hc⟩
    | false =>
      simp only [Bool.false_eq_true, if_false]
      refine ok_mono (fun m hm => ⟨by lia, by lia, hm.2.2.1, fun h => hm.2.2.2 (by lia)⟩) (asc_ok t g f (a + 1) (by lia) (by lia) (hs.succ t h1 hc))
theorem desc_ok (t : TO ans n) (g : PG n p) : ∀ (f b : Nat), 1 ≤ b → b + f ≤ n → DeT ans p b →
    Ok ans n (fun r => r.1 = p ∧ r.2.2 = 0 ∧ b ≤ r.2.1 ∧ r.2.1 ≤ b + f ∧ DeT ans p r.2.1) (kas_desc f p b 0)
  | 0, b, _, _, hs => ⟨rfl, rfl, Nat.le_refl _, Nat.le_refl _, hs⟩
  | f + 1, b, h1, hn, hs => by
    refine ⟨g.lt (by lia), g.lt (by lia), ?_⟩
    cases hc : ans (Kx p b) (Kx p (b - 1)) with
    | true =>
      simp only [if_true, gt_iff_lt, Nat.lt_irrefl, if_false]
      exact ok_mono (fun r hr => ⟨hr.1, hr.2.1, by lia, by lia, hr.2.2.2.2⟩) (desc_ok t g f (b + 1) (by lia) (by lia) (hs.succ t h1 hc))
    | false =>
      simp only [Bool.false_eq_true, if_false]
      refine ⟨g.lt (by lia), g.lt (by lia), ?_⟩
      have := t.d _ _ (g.lt (by lia)) (g.lt (by lia)) (g.ne (i := b) (j := b - 1) (by lia) (by lia) (by lia)) hc
      rw [this]
      simp only [if_true]
      exact ⟨rfl, rfl, Nat.le_refl _, by show b ≤ b + (f + 1); lia, hs⟩
theorem rev_good (g : PG n p) {i j : Nat} : PG n (kas_rev p i j) := (Array.perm_iff_toList_perm.mp (mirror_perm p i j ((j - i) / 2))).trans g
theorem rev_at (g : PG n p) {m i : Nat} (hm : m ≤ n) (hi : i < m) : Kx (kas_rev p 0 m) i = Kx p (m - 1 - i) := by
  have hs := g.size
  have e := getElem?_mirror_all (xs := p) (i := 0) (j := m) (by lia) i
  rw [if_pos ⟨Nat.zero_le _, hi⟩] at e
  simp only [Kx, Array.getD_eq_getD_getElem?]
  show (mirror p 0 m ((m - 0) / 2))[i]?.getD 0 = _
  rw [e]; congr 2; lia
theorem tail3_ok (t : TO ans n) (g : PG n p) {m : Nat} (h1 : 1 ≤ m) (hm : m ≤ n) (hd : DeT ans p m) : Ok ans n (fun r => PG n r.2 ∧ 1 ≤ r.1 ∧ r.1 ≤ n ∧ SoT ans r.2 r.1) (kas_tail3 m n p) := by
  unfold kas_tail3
  refine ok_bind (ok_mono (fun r hr => ?_) (asc_ok t (rev_good g) (n - m) m h1 (by lia) ?_))
  · exact ⟨rev_good g, by lia, by lia, hr.2.2.1⟩
  · intro i j hij hj
    rw [rev_at g hm hj, rev_at g hm (by lia)]
    by_cases e : i = j
    · subst e; exact t.o.irrefl _
    · exact t.o.asymm _ _ (hd (m - 1 - j) (m - 1 - i) (by lia) (by lia))
theorem count_ok (t : TO ans n) (g : PG n p) (h1 : 1 ≤ n) : Ok ans n (fun r => PG n r.2 ∧ 1 ≤ r.1 ∧ r.1 ≤ n ∧ SoT ans r.2 r.1) (kas_count n p) := by
  unfold kas_count
  have s1 : SoT ans p 1 := by intro i j hij hj; have : i = j := by lia
                              subst this; exact t.o.irrefl _
  refine ok_bind (ok_mono (fun m hm => ?_) (asc_ok t g (n - 1) 1 (Nat.le_refl _) (by lia) s1))
  obtain ⟨a1, a2, a3, a4⟩ := hm
  by_cases e : m = n
  · rw [if_pos (by simpa using e)]; exact ⟨g, a1, by lia, a3⟩
  · rw [if_neg (by simpa using e)]
    by_cases e1 : m > 1
    · rw [if_pos e1]
      refine ⟨g.lt (by lia), g.lt (by lia), ?_⟩
      have := t.d _ _ (g.lt (i := m - 1) (by lia)) (g.lt (i := 0) (by lia)) (g.ne (by lia) (by lia) (by lia)) (a3 0 (m - 1) (by lia) (by lia))
      rw [this]
      simp only [if_true]
      exact ⟨g, a1, (by lia : m ≤ n), a3⟩
    · rw [if_neg e1]
      have hm1 : m = 1 := by lia
      subst hm1
      unfold kas_descPart
      have d2 : DeT ans p 2 := by
        intro i j hij hj
        have e1 : i = 0 := by lia
        have e2 : j = 1 := by lia
        subst e1; subst e2
        exact a4 (by lia)
      refine ok_bind (ok_mono (fun r hr => ?_) (desc_ok t g (n - (1 + 1)) (1 + 1) (by lia) (by lia) d2))
      obtain ⟨b1, b2, b3, b4, b5⟩ := hr
      rw [if_neg (by lia), b1]
      exact tail3_ok t g (by lia) (by lia) b5
theorem place_ok (t : TO ans n) (g : PG n p) {k : Nat} (hk : k < n) (hs : SoT ans p k) : ∀ (f l r : Nat), l ≤ r → r ≤ k → r - l ≤ f → (∀ i, i < l → ans (Kx p k) (Kx p i) = false) → (∀ i, r ≤ i → i < k → ans (Kx p k) (Kx p i) = true) →
    Ok ans n (fun m => m ≤ k ∧ (∀ i, i < m → ans (Kx p k) (Kx p i) = false) ∧ (∀ i, m ≤ i → i < k → ans (Kx p k) (Kx p i) = true)) (kas_place p k f l r)
  | 0, l, r, h1, h2, h3, ha, hb => by
    have : l = r := by lia
    subst this; exact ⟨h2, ha, hb⟩
  | f + 1, l, r, h1, h2, h3, ha, hb => by
    unfold kas_place
    by_cases e : l ≥ r
    · rw [if_pos e]
      have : l = r := by lia
      subst this; exact ⟨h2, ha, hb⟩
    · rw [if_neg e]
      refine ⟨g.lt (by lia), g.lt (by lia), ?_⟩
      cases hc : ans (Kx p k) (Kx p ((l + r) / 2)) with
      | true =>
        simp only [if_true]
        refine place_ok t g hk hs f l ((l + r) / 2) (by lia) (by lia) (by lia) ha fun i h1 h2 => ?_
        cases hx : ans (Kx p k) (Kx p i) with
        | true => rfl
        | false =>
          have := t.o.ntrans (Kx p ((l + r) / 2)) (Kx p i) (Kx p k) (hs _ i h1 h2) hx
          rw [this] at hc; cases hc
      | false =>
        simp only [Bool.false_eq_true, if_false]
        refine place_ok t g hk hs f ((l + r) / 2 + 1) r (by lia) (by lia) (by lia) (fun i h1 => ?_) hb
        by_cases ei : i = (l + r) / 2
        · rw [ei]; exact hc
        · exact t.o.ntrans (Kx p i) (Kx p ((l + r) / 2)) (Kx p k) (hs i _ (by lia) (by lia)) hc
theorem bin_ok (t : TO ans n) : ∀ (f : Nat) {p : Array Nat} {k : Nat}, PG n p → k + f = n → SoT ans p k → Ok ans n (fun q => PG n q ∧ SoT ans q n) (kas_bin f p k)
  | 0, p, k, g, hk, hs => by
    have : k = n := by lia
    subst this; exact ⟨g, hs⟩
  | f + 1, p, k, g, hk, hs => by
    unfold kas_bin
    have hps := g.size
    refine ok_bind (ok_mono (fun l hl => ?_) (place_ok t g (by lia) hs k 0 k (Nat.zero_le _) (Nat.le_refl _) (by lia) (fun i h => absurd h (by lia)) fun i h1 h2 => absurd h1 (by lia)))
    obtain ⟨h1, h2, h3⟩ := hl
    refine bin_ok t f ((Array.perm_iff_toList_perm.mp (bubble_perm p k (k - l))).trans g) (by lia) ?_
    have key : ∀ i, Kx (bubble p k (k - l)) i = if i = l then Kx p k else if l < i ∧ i ≤ k then Kx p (i - 1) else Kx p i := by
      intro i
      simp only [Kx, Array.getD_eq_getD_getElem?]
      rw [getElem?_bubble (by lia) (k - l) (by lia)]
      rw [show k - (k - l) = l by lia]
      split
      · rfl
      · split <;> rfl
    intro i j hij hj
    rw [key, key]
    by_cases ej : j = l
    · rw [if_pos ej]
      by_cases ei : i = l
      · rw [if_pos ei]; exact t.o.irrefl _
      · rw [if_neg ei, if_neg (by lia)]; exact h2 i (by lia)
    · rw [if_neg ej]
      by_cases cj : l < j ∧ j ≤ k
      · rw [if_pos cj]
        by_cases ei : i = l
        · rw [if_pos ei]; exact t.o.asymm _ _ (h3 (j - 1) (by lia) (by lia))
        · rw [if_neg ei]
          by_cases ci : l < i ∧ i ≤ k
          · rw [if_pos ci]; exact hs (i - 1) (j - 1) (by lia) (by lia)
          · rw [if_neg ci]; exact hs i (j - 1) (by lia) (by lia)
      · rw [if_neg cj]
        have : j < l := by lia
        rw [if_neg (by lia), if_neg (by lia)]
        exact hs i j hij (by lia)
theorem sort_ok (t : TO ans n) (h1 : 1 ≤ n) : Ok ans n (fun q => PG n q ∧ SoT ans q n) (kas_sort n) := by
  unfold kas_sort
  refine ok_bind (ok_mono (fun r hr => ?_) (count_ok t (p := (List.range n).toArray) (by simp [PG]) h1))
  obtain ⟨a1, a2, a3, a4⟩ := hr
  by_cases e : r.1 < n
  · rw [if_pos e, show max r.1 1 = r.1 by lia]
    exact bin_ok t _ a1 (by lia) a4
  · rw [if_neg e]
    have : r.1 = n := by lia
    rw [this] at a4
    exact ⟨a1, a4⟩
end
end Mine
namespace Mine
local macro_rules | `(tactic| walk_at "lk") => `(tactic| first | with_reducible exact upd_eq | (refine upd_ne (by rfl) ?_; walk_at "lk") | with_reducible assumption | rfl)
local macro_rules | `(tactic| walk_at "nm") => `(tactic| refine nmL (by with_reducible assumption) (by walk_at "lk") ?_)
section
variable {prog : Program} {w : World} {A : Around} {E : Value → Shared → Prop} {s : Shared}
theorem lex_int {b fin : Bool} {Q : Bool → Shared → Prop} : ∀ {vs us : List Value} {xs ys : List Int} (i : Nat), IntsAre vs xs → IntsAre us ys → vs.length = us.length → fin = false → Q (lexLt xs ys) s → KatLex prog w A b fin Q (vs.zip us) i s
  | _, _, _, _, _, .nil, .nil, _, hf, h => by subst hf; exact h
  | _, _, _, _, _, .nil, .cons _ _ _, hl, _, _ => by simp at hl
  | _, _, _, _, _, .cons _ _ _, .nil, hl, _, _ => by simp at hl
  | _, _, _, _, i, .cons x t r, .cons y u r', hl, hf, h => by
    refine kat_cons (wpAny_eqBool_int ?_)
    by_cases e : x = y
    · subst e
      rw [beq_self_eq_true]
      exact kat_yes (lex_int (i + 1) r r' (by simpa using hl) hf (by simpa [lexLt] using h))
    · rw [beq_eq_false_iff_ne.mpr e]
      have h' : Q (decide (x < y)) s := by simpa [lexLt, e] using h
      refine kat_no ?_
      cases hb : (b && i == 0) with
      | true => exact oneLt_int h'
      | false => exact kat_one _ _ (wpAny_lt_int h')
end
theorem kat_tups {h : Heap} : ∀ {ps : List AD}, DeedsAt h ps → ∃ fs, KatTups h (refs ps) fs ∧ fs.length = ps.length ∧ ∀ v ∈ fs, ∃ n t, v = .int n t
  | [], _ => ⟨[], trivial, rfl, fun _ h => nomatch h⟩
  | p :: ps, hD => by
    obtain ⟨fs, a, b, c⟩ := kat_tups (ps := ps) fun q hq => hD q (.tail _ hq)
    obtain ⟨vals, ⟨o, ho, hc, n, hd⟩, hi⟩ := hD p (.head _)
    obtain ⟨t0, t1, t2, t3, t4, t5, t6, rfl⟩ := deed_vals hi
    refine ⟨.int p.2.hour t0 :: fs, KatTups.cons ho hc hd rfl a, by simp [b], fun v hv => ?_⟩
    rcases List.mem_cons.mp hv with rfl | hv
    · exact ⟨_, _, rfl⟩
    · exact c v hv
section
variable {prog : Program} {w : World} {A : Around} {E : Value → Shared → Prop} {h : Heap} {gs : Array GenState} {dr : Drawn} {t : Nat} {os : OsState} {Q : Value → Shared → Prop} {k : Nat} {g : Heap} {L l : Addr} {m : Str → Option Value} {rest : List (Addr × Obj)}
theorem c_sorted {ps : List AD} (F : Fr g L h m) (N : News g L h rest) (hl : h.IsList l (refs ps).toArray) {bks : List (Addr × Obj)} (hb : ∀ q ∈ bks, q ∈ rest) (hD : ∀ p ∈ ps, DIn g bks p) (h2 : 2 ≤ ps.length) (h64 : ps.length < 64) (hnd : (ps.map (·.2)).Nodup)
    (q : ∀ D n out h', Fr g L h' m → News g L h' ((D, listOf (refs out).toArray n) :: rest) → (∀ p ∈ rest, p.1 ≠ D) → out.Perm ps → Sorted (out.map (·.2)) → Q (.ref D) ⟨h', gs, dr, t, os⟩) :
    wpAny (model prog w) A (call (.builtin "sorted") [.ref l]) Q E ⟨h, gs, dr, t, os⟩ := by
  have hrl : (refs ps).length = ps.length := by simp [refs]
  refine kat_sorted (s := ⟨h, gs, dr, t, os⟩) F N hl (by lia) (by lia) fun D e1 h' F' N' hlt => ?_
  have hk : DeedsAt h' ps := fun p hp => (hD p hp).at F' N' fun q hq => .tail _ (hb q hq)
  obtain ⟨fs, kt, kl, kf⟩ := kat_tups hk
  refine kat_kind (s := ⟨h', gs, dr, t, os⟩) (T := .type "int") kt (by lia) (fun v hv => ?_) (by decide) ?_
  · obtain ⟨n, u, rfl⟩ := kf v hv; exact Looks.of_pure rfl
  rw [show (Value.type "int" != Value.type "tuple") = true by decide]
  rw [hrl]
  refine ok_wp (s := ⟨h', gs, dr, t, os⟩) (ans := fun i j => dlt ((ps.map (·.2)).getD i ⟨0, 0, 0, 0, 0, 0, 0⟩) ((ps.map (·.2)).getD j ⟨0, 0, 0, 0, 0, 0, 0⟩)) (n := ps.length) ?cmp ?fin (sort_ok ?to (by lia))
  case cmp =>
    intro i j C hi hj hC
    obtain ⟨vi, ti, ii⟩ := hk ps[i] (List.getElem_mem _)
    obtain ⟨vj, tj, ij⟩ := hk ps[j] (List.getElem_mem _)
    obtain ⟨oi, hoi, _, ni, hdi⟩ := ti
    obtain ⟨oj, hoj, _, nj, hdj⟩ := tj
    unfold kas_ask
    rw [show (refs ps).getD i Value.none = .ref ps[i].1 by simp [refs, hi], show (refs ps).getD j Value.none = .ref ps[j].1 by simp [refs, hj]]
    have lij : vi.length = vj.length := by rw [ii.length, ij.length]; rfl
    refine kat_lt hoi hdi hoj hdj (lex_int 0 (by simpa using ii) (by simpa using ij) (by simpa using lij) (by simp [lij]) ?_)
    have e : lexLt ps[i].2.toL ps[j].2.toL = dlt ((ps.map (·.2)).getD i ⟨0, 0, 0, 0, 0, 0, 0⟩) ((ps.map (·.2)).getD j ⟨0, 0, 0, 0, 0, 0, 0⟩) := by simp [hi, hj, dlt]
    rw [e]; exact hC
  case to =>
    refine ⟨⟨fun a => dlt_ord.irrefl _, fun a b => dlt_ord.asymm _ _, fun a b c => dlt_ord.ntrans _ _ _⟩, fun i j hi hj hij hf => ?_⟩
    cases hx : dlt ((ps.map (·.2)).getD j ⟨0, 0, 0, 0, 0, 0, 0⟩) ((ps.map (·.2)).getD i ⟨0, 0, 0, 0, 0, 0, 0⟩) with
    | true => rfl
    | false =>
      have e := dlt_total hf hx
      exfalso
      have hp := List.pairwise_iff_getElem.mp hnd
      simp [hi, hj] at e
      rcases Nat.lt_or_gt_of_ne hij with hl | hl
      · exact hp i j (by simpa using hi) (by simpa using hj) hl (by simpa using e)
      · exact hp j i (by simpa using hj) (by simpa using hi) hl (by simpa using e.symm)
  case fin =>
    intro p ⟨hp, hs⟩
    have hN : ∀ q ∈ rest, q.1 ≠ D := fun q hq => Nat.ne_of_lt (hlt q hq)
    let df : AD := (0, ⟨0, 0, 0, 0, 0, 0, 0⟩)
    have hlt2 : ∀ i ∈ p.toList, i < ps.length := fun i hi => List.mem_range.mp (hp.mem_iff.mp hi)
    have e1 : (p.toList.map fun i => (refs ps).getD i Value.none) = refs (p.toList.map fun i => ps.getD i df) := by
      simp only [refs, List.map_map]
      refine List.map_congr_left fun i hi => ?_
      have := hlt2 i hi
      simp [this]
    have e2 : (List.range ps.length).map (fun i => ps.getD i df) = ps := by
      apply List.ext_getElem
      · simp
      · intro i h1 h2; simp at h1; simp [h1]
    rw [e1]
    refine KasFin.intro (s := ⟨h', gs, dr, t, os⟩) F' N' (UpdF.head hN) fun h'' c F'' N'' => q D c (p.toList.map fun i => ps.getD i df) h'' F'' N'' hN ?_ ?_
    · have := hp.map (fun i => ps.getD i df)
      rwa [e2] at this
    · have hsz := PG.size hp
      refine List.pairwise_iff_getElem.mpr fun i j hi hj hij => ?_
      simp at hi hj
      have z := hs i j (Nat.le_of_lt hij) (by lia)
      have l1 := hlt2 p[i] (Array.getElem_mem_toList _)
      have l2 := hlt2 p[j] (Array.getElem_mem_toList _)
      rw [Kx_get (by lia), Kx_get (by lia)] at z
      simp only [List.getD_eq_getElem?_getD, List.getElem?_map, List.getElem?_eq_getElem l1, List.getElem?_eq_getElem l2, Option.map_some, Option.getD_some] at z
      simp only [List.getElem_map, Array.getElem_toList, List.getD_eq_getElem?_getD, List.getElem?_eq_getElem l1, List.getElem?_eq_getElem l2, Option.getD_some]
      exact z
end
end Mine
namespace Mine
/-! bits -/
theorem sub_bit (m b i : Nat) : (m - (m &&& b)).testBit i = (m.testBit i && !b.testBit i) := by
  have h0 : (m &&& b) &&& (m ^^^ (m &&& b)) = 0 := by
    apply Nat.eq_of_testBit_eq; intro i
    simp only [Nat.testBit_and, Nat.testBit_xor, Nat.zero_testBit]
    cases m.testBit i <;> cases b.testBit i <;> rfl
  have h1 : (m &&& b) ||| (m ^^^ (m &&& b)) = m := by
    apply Nat.eq_of_testBit_eq; intro i
    simp only [Nat.testBit_and, Nat.testBit_xor, Nat.testBit_or]
    cases m.testBit i <;> cases b.testBit i <;> rfl
  have h2 := nat_or_add_and (m &&& b) (m ^^^ (m &&& b))
  rw [h0, h1] at h2
  have h3 : m - (m &&& b) = m ^^^ (m &&& b) := by lia
  rw [h3]
  simp only [Nat.testBit_and, Nat.testBit_xor]
  cases m.testBit i <;> cases b.testBit i <;> rfl
theorem add_bit {a b : Nat} (h : ∀ i, (a.testBit i && b.testBit i) = false) (i : Nat) : (a + b).testBit i = (a.testBit i || b.testBit i) := by
  have h0 : a &&& b = 0 := by
    apply Nat.eq_of_testBit_eq; intro i
    rw [Nat.testBit_and, Nat.zero_testBit]; exact h i
  have h2 := nat_or_add_and a b
  rw [h0] at h2
  have h3 : a + b = a ||| b := by lia
  rw [h3, Nat.testBit_or]
def tellStep (nm : Int) (st : Nat × Nat) (d : Deed) : Nat × Nat :=
  if d.name = nm then (st.1 + ((saysOf d.kind d.bits.toNat).2 &&& ((saysOf d.kind d.bits.toNat).1 - ((saysOf d.kind d.bits.toNat).1 &&& st.2))), st.2 + ((saysOf d.kind d.bits.toNat).1 - ((saysOf d.kind d.bits.toNat).1 &&& st.2))) else st
def tellEnd (nm : Int) (st : Nat × Nat) : Nat := st.1 + (startM nm - (startM nm &&& st.2))
def toldMode (ds : List Deed) (nm : Int) : Nat := tellEnd nm (ds.reverse.foldl (tellStep nm) (0, 0))
def toldOf (ds : List Deed) : List (Deed × Str) := ds.mapIdx fun k d => (d, lawText (toldMode (ds.take (k + 1)) d.name))

theorem small_bit {b i : Nat} (h : b < 4096) (hi : b.testBit i = true) : i < 12 := by
  rcases Nat.lt_or_ge i 12 with h1 | h1
  · exact h1
  · rw [Nat.testBit_lt_two_pow (Nat.lt_of_lt_of_le h (by calc 4096 = 2 ^ 12 := rfl
                                                         _ ≤ 2 ^ i := Nat.pow_le_pow_right (by decide) h1))] at hi
    cases hi
theorem bit4095 (i : Nat) : (4095 : Nat).testBit i = decide (i < 12) := Nat.testBit_two_pow_sub_one 12 i
theorem bit61440 (i : Nat) : (61440 : Nat).testBit i = (decide (12 ≤ i) && decide (i < 16)) := by
  have e : (61440 : Nat) = 2 ^ 12 * (2 ^ 4 - 1) := rfl
  rw [e, Nat.testBit_two_pow_mul, Nat.testBit_two_pow_sub_one]
  by_cases h : 12 ≤ i
  · simp only [h, decide_true, Bool.true_and, ge_iff_le]
    apply decide_eq_decide.mpr; lia
  · simp [h]
theorem bit_kind (b i : Nat) : (b % 16 * 4096).testBit i = (decide (12 ≤ i) && (b % 16).testBit (i - 12)) := by
  rw [Nat.mul_comm]
  exact Nat.testBit_two_pow_mul (i := 12) ..
theorem step_bit {d : Deed} (g : GoodD d) {m : Nat} (hm : m < 65536) (i : Nat) :
    (stepM d m).testBit i = if (saysOf d.kind d.bits.toNat).1.testBit i = true then (saysOf d.kind d.bits.toNat).2.testBit i else m.testBit i := by
  have hb : d.bits.toNat < 4096 := by have := g.2; lia
  have hm16 : ∀ j, m.testBit j = true → j < 16 := by
    intro j hj
    rcases Nat.lt_or_ge j 16 with h1 | h1
    · exact h1
    · rw [Nat.testBit_lt_two_pow (Nat.lt_of_lt_of_le hm (by calc 65536 = 2 ^ 16 := rfl
                                                              _ ≤ 2 ^ j := Nat.pow_le_pow_right (by decide) h1))] at hj
      cases hj
  have hbs : ∀ j, d.bits.toNat.testBit j = true → j < 12 := fun j => small_bit hb
  unfold stepM saysOf
  generalize d.bits.toNat = b at hb hbs
  by_cases k1 : d.kind = 1
  · simp only [k1, if_true, sub_bit, Nat.zero_testBit]
    cases m.testBit i <;> cases b.testBit i <;> rfl
  by_cases k3 : d.kind = 3
  · simp only [k3, if_true, if_neg (show ¬ ((3 : Int) = 1) by decide), bit4095, decide_eq_true_eq]
    rw [add_bit (fun j => ?_), Nat.testBit_and, bit61440]
    · by_cases h : i < 12
      · simp [h, show ¬ 12 ≤ i by lia]
      · simp only [h, if_false]
        have hbi : b.testBit i = false := by cases hx : b.testBit i with
          | false => rfl
          | true => exact absurd (hbs i hx) h
        rw [hbi]
        cases hx : m.testBit i with
        | false => simp
        | true => have := hm16 i hx; simp; lia
    · rw [Nat.testBit_and, bit61440]
      cases hx : b.testBit j with
      | false => simp
      | true => have := hbs j hx; simp; lia
  by_cases k4 : d.kind = 4
  · simp only [k4, if_true, if_neg (show ¬ ((4 : Int) = 1) by decide), if_neg (show ¬ ((4 : Int) = 3) by decide), bit61440]
    rw [add_bit (fun j => ?_), Nat.testBit_and, bit4095, bit_kind]
    · by_cases h : i < 12
      · simp [h, show ¬ 12 ≤ i by lia]
      · by_cases h2 : i < 16
        · simp [h, h2, show 12 ≤ i by lia]
        · have : (b % 16).testBit (i - 12) = false := by
            apply Nat.testBit_lt_two_pow
            exact Nat.lt_of_lt_of_le (Nat.mod_lt _ (by decide)) (by calc 16 = 2 ^ 4 := rfl
                                                                     _ ≤ 2 ^ (i - 12) := Nat.pow_le_pow_right (by decide) (by lia))
          have hmi : m.testBit i = false := by cases hx : m.testBit i with
            | false => rfl
            | true => exact absurd (hm16 i hx) h2
          simp [h, h2, this, hmi]
    · rw [Nat.testBit_and, bit4095, bit_kind]
      by_cases h : j < 12
      · simp [h, show ¬ 12 ≤ j by lia]
      · simp [h]
  · simp only [if_neg k1, if_neg k3, if_neg k4, Nat.testBit_or]
    cases m.testBit i <;> cases b.testBit i <;> rfl
theorem step_lt {d : Deed} (g : GoodD d) {m : Nat} (hm : m < 65536) : stepM d m < 65536 := by
  have hb : d.bits.toNat < 4096 := by have := g.2; lia
  unfold stepM
  split
  · lia
  split
  · have := Nat.and_le_right (n := m) (m := 61440); lia
  split
  · have := Nat.and_le_right (n := m) (m := 4095); lia
  · exact Nat.or_lt_two_pow (n := 16) hm (by lia)
theorem says_sub {d : Deed} (g : GoodD d) (i : Nat) : (saysOf d.kind d.bits.toNat).2.testBit i = true → (saysOf d.kind d.bits.toNat).1.testBit i = true := by
  have hb : d.bits.toNat < 4096 := by have := g.2; lia
  have hbs : ∀ j, d.bits.toNat.testBit j = true → j < 12 := fun j => small_bit hb
  unfold saysOf
  split
  · simp
  split
  · intro h; rw [bit4095]; simpa using hbs i h
  split
  · intro h
    rw [bit_kind] at h
    rw [bit61440]
    simp only [Bool.and_eq_true, decide_eq_true_eq] at h ⊢
    refine ⟨h.1, ?_⟩
    rcases Nat.lt_or_ge i 16 with h1 | h1
    · exact h1
    · have : (d.bits.toNat % 16).testBit (i - 12) = false := by
        apply Nat.testBit_lt_two_pow
        exact Nat.lt_of_lt_of_le (Nat.mod_lt _ (by decide)) (by calc 16 = 2 ^ 4 := rfl
                                                                 _ ≤ 2 ^ (i - 12) := Nat.pow_le_pow_right (by decide) (by lia))
      rw [this] at h; exact absurd h.2 (by decide)
  · exact id
theorem modeOf_snoc (ds : List Deed) (d : Deed) (nm : Int) : modeOf (ds ++ [d]) nm = if d.name = nm then stepM d (modeOf ds nm) else modeOf ds nm := by
  unfold modeOf; simp [List.foldl_append]
theorem start_lt (nm : Int) : startM nm < 65536 := by unfold startM; split <;> decide
theorem modeOf_lt (nm : Int) : ∀ (ds : List Deed), (∀ d ∈ ds, GoodD d) → modeOf ds nm < 65536 := by
  have go : ∀ (ds : List Deed) (m : Nat), m < 65536 → (∀ d ∈ ds, GoodD d) → ds.foldl (fun m d => if d.name = nm then stepM d m else m) m < 65536 := by
    intro ds
    induction ds with
    | nil => intro m hm _; exact hm
    | cons d ds ih =>
      intro m hm hg
      refine ih _ ?_ fun e he => hg e (.tail _ he)
      show (if d.name = nm then stepM d m else m) < 65536
      split
      · exact step_lt (hg d (.head _)) hm
      · exact hm
  intro ds hg
  exact go ds _ (start_lt nm) hg
theorem tell_bit (nm : Int) (i : Nat) : ∀ (n : Nat) (ds : List Deed) (st : Nat × Nat), ds.length = n → (∀ d ∈ ds, GoodD d) → (∀ i, st.1.testBit i = true → st.2.testBit i = true) →
    (tellEnd nm (ds.reverse.foldl (tellStep nm) st)).testBit i = if st.2.testBit i = true then st.1.testBit i else (modeOf ds nm).testBit i := by
  intro n
  induction n with
  | zero =>
    intro ds st hl hg hsub
    have : ds = [] := List.eq_nil_of_length_eq_zero hl
    subst this
    show (tellEnd nm st).testBit i = if st.2.testBit i = true then st.1.testBit i else (startM nm).testBit i
    unfold tellEnd
    rw [add_bit (fun j => ?_), sub_bit]
    · cases h1 : st.1.testBit i with
      | true => rw [hsub i h1]; simp
      | false => cases st.2.testBit i <;> simp
    · rw [sub_bit]
      cases h1 : st.1.testBit j with
      | true => rw [hsub j h1]; simp
      | false => simp
  | succ n ih =>
    intro ds st hl hg hsub
    obtain ⟨ds', d, rfl⟩ : ∃ ds' d, ds = ds' ++ [d] := by
      have hne : ds ≠ [] := fun e => by rw [e] at hl; simp at hl
      exact ⟨ds.dropLast, ds.getLast hne, (List.dropLast_concat_getLast hne).symm⟩
    have hl' : ds'.length = n := by simpa using hl
    have hg' : ∀ e ∈ ds', GoodD e := fun e he => hg e (List.mem_append_left _ he)
    have gd : GoodD d := hg d (by simp)
    rw [List.reverse_append, List.reverse_singleton, List.singleton_append, List.foldl_cons, modeOf_snoc]
    by_cases hn : d.name = nm
    · have hst : tellStep nm st d = (st.1 + ((saysOf d.kind d.bits.toNat).2 &&& ((saysOf d.kind d.bits.toNat).1 - ((saysOf d.kind d.bits.toNat).1 &&& st.2))), st.2 + ((saysOf d.kind d.bits.toNat).1 - ((saysOf d.kind d.bits.toNat).1 &&& st.2))) := by
        unfold tellStep; rw [if_pos hn]
      have f1 : ∀ j, (tellStep nm st d).1.testBit j = (st.1.testBit j || ((saysOf d.kind d.bits.toNat).2.testBit j && !st.2.testBit j)) := by
        intro j
        rw [hst]
        show (st.1 + _).testBit j = _
        rw [add_bit (fun q => ?_), Nat.testBit_and, sub_bit]
        · have hv := says_sub gd j
          cases h1 : (saysOf d.kind d.bits.toNat).2.testBit j with
          | false => simp
          | true => rw [hv h1]; simp
        · rw [Nat.testBit_and, sub_bit]
          cases h1 : st.1.testBit q with
          | true => rw [hsub q h1]; simp
          | false => simp
      have f2 : ∀ j, (tellStep nm st d).2.testBit j = (st.2.testBit j || (saysOf d.kind d.bits.toNat).1.testBit j) := by
        intro j
        rw [hst]
        show (st.2 + _).testBit j = _
        rw [add_bit (fun q => ?_), sub_bit]
        · cases st.2.testBit j <;> simp
        · rw [sub_bit]; cases st.2.testBit q <;> simp
      rw [ih ds' _ hl' hg' ?sub, f1, f2, if_pos hn, step_bit gd (modeOf_lt nm ds' hg')]
      case sub =>
        intro j hj
        rw [f1] at hj; rw [f2]
        have h1 := hsub j
        have h2 := says_sub gd j
        cases a : st.1.testBit j <;> cases b : st.2.testBit j <;> cases c : (saysOf d.kind d.bits.toNat).2.testBit j <;> cases e : (saysOf d.kind d.bits.toNat).1.testBit j <;> simp_all
      have h1 := hsub i
      have h2 := says_sub gd i
      cases a : st.1.testBit i <;> cases b : st.2.testBit i <;> cases c : (saysOf d.kind d.bits.toNat).2.testBit i <;> cases e : (saysOf d.kind d.bits.toNat).1.testBit i <;> simp_all
    · have hst : tellStep nm st d = st := by unfold tellStep; rw [if_neg hn]
      rw [hst, if_neg hn]
      exact ih ds' st hl' hg' hsub
theorem told_eq (ds : List Deed) (nm : Int) (hg : ∀ d ∈ ds, GoodD d) : toldMode ds nm = modeOf ds nm := by
  apply Nat.eq_of_testBit_eq
  intro i
  have := tell_bit nm i ds.length ds (0, 0) rfl hg (fun i h => by simp at h)
  simpa [toldMode] using this
end Mine
namespace Mine
/-! filemode writes what _law_text writes -/
theorem hit1 (n j : Nat) : (n &&& 2 ^ j == 2 ^ j) = n.testBit j := by
  cases h : n.testBit j with
  | true =>
    rw [beq_iff_eq]
    apply Nat.eq_of_testBit_eq; intro i
    rw [Nat.testBit_and, Nat.testBit_two_pow]
    by_cases e : j = i
    · subst e; simp [h]
    · simp [e]
  | false =>
    rw [beq_eq_false_iff_ne]
    intro e
    have := congrArg (fun x => x.testBit j) e
    simp [Nat.testBit_and, h] at this
theorem hit2 (n j k b : Nat) (hb : 2 ^ j ||| 2 ^ k = b) : (n &&& b == b) = (n.testBit j && n.testBit k) := by
  subst hb
  cases h : (n.testBit j && n.testBit k) with
  | true =>
    simp only [Bool.and_eq_true] at h
    rw [beq_iff_eq]
    apply Nat.eq_of_testBit_eq; intro i
    rw [Nat.testBit_and, Nat.testBit_or, Nat.testBit_two_pow, Nat.testBit_two_pow]
    by_cases e : j = i
    · subst e; simp [h.1]
    · by_cases e2 : k = i
      · subst e2; simp [h.2]
      · simp [e, e2]
  | false =>
    rw [beq_eq_false_iff_ne]
    intro e
    have e1 := congrArg (fun x => x.testBit j) e
    have e2 := congrArg (fun x => x.testBit k) e
    simp [Nat.testBit_and, Nat.testBit_or] at e1 e2
    rw [e1, e2] at h; cases h
def ch (b : Bool) (x : Str) : Str := if b then x else Str.ofString "-"
def ch3 (lo hi : Bool) (x y z : Str) : Str := if hi && lo then x else if hi then y else if lo then z else Str.ofString "-"
theorem pick1 {i n j : Nat} {a : Addr} {c : Str} (hi : i ≠ 0) : pickC i n [(a, 2 ^ j, c)] = ch (n.testBit j) c := by
  unfold pickC ch
  simp only [List.find?_cons, hit, hi, if_false, hit1]
  cases n.testBit j <;> simp [hi]
theorem pick3 {i n j k b : Nat} {a a' a'' : Addr} {x y z : Str} (hi : i ≠ 0) (hb : 2 ^ j ||| 2 ^ k = b) : pickC i n [(a, b, x), (a', 2 ^ j, y), (a'', 2 ^ k, z)] = ch3 (n.testBit k) (n.testBit j) x y z := by
  unfold pickC ch3
  simp only [List.find?_cons, hit, hi, if_false, hit1, hit2 n j k b hb]
  cases n.testBit j <;> cases n.testBit k <;> simp [hi]
theorem rows_eq (n : Nat) : fileRows n = [pickC 0 n (ftab.getD 0 (0, [])).2, ch (n.testBit 8) (Str.ofString "r"), ch (n.testBit 7) (Str.ofString "w"), ch3 (n.testBit 6) (n.testBit 11) (Str.ofString "s") (Str.ofString "S") (Str.ofString "x"),
    ch (n.testBit 5) (Str.ofString "r"), ch (n.testBit 4) (Str.ofString "w"), ch3 (n.testBit 3) (n.testBit 10) (Str.ofString "s") (Str.ofString "S") (Str.ofString "x"),
    ch (n.testBit 2) (Str.ofString "r"), ch (n.testBit 1) (Str.ofString "w"), ch3 (n.testBit 0) (n.testBit 9) (Str.ofString "t") (Str.ofString "T") (Str.ofString "x")] := by
  show [pickC 0 n _, pickC 1 n _, pickC 2 n _, pickC 3 n _, pickC 4 n _, pickC 5 n _, pickC 6 n _, pickC 7 n _, pickC 8 n _, pickC 9 n _] = _
  rw [show pickC 1 n _ = _ from pick1 (j := 8) (by decide), show pickC 2 n _ = _ from pick1 (j := 7) (by decide), show pickC 3 n _ = _ from pick3 (j := 11) (k := 6) (b := 2112) (by decide) (by decide),
    show pickC 4 n _ = _ from pick1 (j := 5) (by decide), show pickC 5 n _ = _ from pick1 (j := 4) (by decide), show pickC 6 n _ = _ from pick3 (j := 10) (k := 3) (b := 1032) (by decide) (by decide),
    show pickC 7 n _ = _ from pick1 (j := 2) (by decide), show pickC 8 n _ = _ from pick1 (j := 1) (by decide), show pickC 9 n _ = _ from pick3 (j := 9) (k := 0) (b := 513) (by decide) (by decide)]
  rfl
theorem kind_and {n : Nat} (h : n < 65536) : n &&& 61440 = n / 4096 * 4096 := by
  apply Nat.eq_of_testBit_eq; intro i
  rw [Nat.testBit_and, bit61440, Nat.mul_comm]
  rw [show (4096 * (n / 4096)).testBit i = (decide (12 ≤ i) && (n / 4096).testBit (i - 12)) from Nat.testBit_two_pow_mul (i := 12) ..]
  rw [show (n / 4096).testBit (i - 12) = n.testBit ((i - 12) + 12) from Nat.testBit_div_two_pow (n := 12) n _]
  by_cases h1 : 12 ≤ i
  · rw [show (i - 12) + 12 = i by lia]
    by_cases h2 : i < 16
    · simp [h1, h2]
    · have : n.testBit i = false := Nat.testBit_lt_two_pow (Nat.lt_of_lt_of_le h (by calc 65536 = 2 ^ 16 := rfl
                                                                                    _ ≤ 2 ^ i := Nat.pow_le_pow_right (by decide) (by lia)))
      simp [this]
  · simp [h1]
theorem kind_all : ∀ k : Fin 16, (match (ftab.getD 0 (0, [])).2.find? (fun q => k.val * 4096 == q.2.1) with | some q => q.2.2 | none => Str.ofString "?") = Txt.item kinds ((k.val : Nat) : Int) := by decide
theorem kind_eq {n : Nat} (h : n < 65536) : pickC 0 n (ftab.getD 0 (0, [])).2 = Txt.item kinds ((n / 4096 : Nat) : Int) := by
  unfold pickC
  simp only [hit, if_true, kind_and h]
  exact kind_all ⟨n / 4096, by lia⟩
theorem item_r (b : Bool) : Txt.item (Str.ofString "-r") ((b.toNat : Nat) : Int) = ch b (Str.ofString "r") := by cases b <;> decide
theorem item_w (b : Bool) : Txt.item (Str.ofString "-w") ((b.toNat : Nat) : Int) = ch b (Str.ofString "w") := by cases b <;> decide
theorem item_s (a b : Bool) : Txt.item (Str.ofString "-xSs") ((a.toNat + 2 * b.toNat : Nat) : Int) = ch3 a b (Str.ofString "s") (Str.ofString "S") (Str.ofString "x") := by cases a <;> cases b <;> decide
theorem item_t (a b : Bool) : Txt.item (Str.ofString "-xTt") ((a.toNat + 2 * b.toNat : Nat) : Int) = ch3 a b (Str.ofString "t") (Str.ofString "T") (Str.ofString "x") := by cases a <;> cases b <;> decide
theorem step_eq {n p : Nat} {r w x a : Nat} {row : Str} (h1 : fig n p / 4 = (n.testBit r).toNat) (h2 : fig n p / 2 % 2 = (n.testBit w).toNat) (h3 : fig n p % 2 = (n.testBit x).toNat) (h4 : abv n p = (n.testBit a).toNat) :
    textStep n p row = (row ++ (ch (n.testBit r) (Str.ofString "r") ++ ch (n.testBit w) (Str.ofString "w"))) ++ Txt.item (trip p) (((n.testBit x).toNat + 2 * (n.testBit a).toNat : Nat) : Int) := by
  unfold textStep; rw [h1, h2, h3, h4, item_r, item_w]
theorem fig_r (x : Nat) : x % 8 / 4 = x / 4 % 2 := Nat.mod_mul_right_div_self x 4 2
theorem fig_w (x : Nat) : x % 8 / 2 % 2 = x / 2 % 2 := by rw [show x % 8 / 2 = x / 2 % 4 from Nat.mod_mul_right_div_self x 2 4, Nat.mod_mod_of_dvd _ (by decide)]
theorem fig_x (x : Nat) : x % 8 % 2 = x % 2 := Nat.mod_mod_of_dvd _ (by decide)
theorem fr {n p r : Nat} (h : 8 ^ (2 - p) * 4 = 2 ^ r) : fig n p / 4 = (n.testBit r).toNat := by rw [Nat.toNat_testBit, fig, fig_r, Nat.div_div_eq_div_mul, h]
theorem fw {n p w : Nat} (h : 8 ^ (2 - p) * 2 = 2 ^ w) : fig n p / 2 % 2 = (n.testBit w).toNat := by rw [Nat.toNat_testBit, fig, fig_w, Nat.div_div_eq_div_mul, h]
theorem fx {n p x : Nat} (h : 8 ^ (2 - p) = 2 ^ x) : fig n p % 2 = (n.testBit x).toNat := by rw [Nat.toNat_testBit, fig, fig_x, h]
theorem fab {n p a : Nat} (h : 512 * 2 ^ (2 - p) = 2 ^ a) : abv n p = (n.testBit a).toNat := by rw [Nat.toNat_testBit, abv, Nat.div_div_eq_div_mul, h]
theorem text_eq {n : Nat} (h : n < 65536) : fileText n = lawText n := by
  unfold fileText lawText
  rw [rows_eq, kind_eq h]
  show _ = textStep n 2 (textStep n 1 (textStep n 0 (Txt.item kinds (n / 4096 : Nat))))
  rw [step_eq (p := 2) (r := 2) (w := 1) (x := 0) (a := 9) (fr (by decide)) (fw (by decide)) (fx (by decide)) (fab (by decide)),
    step_eq (p := 1) (r := 5) (w := 4) (x := 3) (a := 10) (fr (by decide)) (fw (by decide)) (fx (by decide)) (fab (by decide)),
    step_eq (p := 0) (r := 8) (w := 7) (x := 6) (a := 11) (fr (by decide)) (fw (by decide)) (fx (by decide)) (fab (by decide))]
  rw [show trip 2 = Str.ofString "-xTt" from rfl, show trip 1 = Str.ofString "-xSs" from rfl, show trip 0 = Str.ofString "-xSs" from rfl, item_t, item_s, item_s]
  have e0 : ∀ x : Str, x ++ Str.ofString "" = x := fun x => Str.append_right_empty (by decide)
  unfold Txt.join
  rw [StrLaws.glued_eq_join]
  simp only [Str.join, e0, Str.append_assoc]
end Mine
namespace Mine
local macro_rules | `(tactic| walk_at "lk") => `(tactic| first | with_reducible exact upd_eq | (refine upd_ne (by rfl) ?_; walk_at "lk") | with_reducible assumption | rfl)
local macro_rules | `(tactic| walk_at "nm") => `(tactic| refine nmL (by with_reducible assumption) (by walk_at "lk") ?_)
/-- the frame of a comprehension -/
abbrev cEnv (scope : Scope) (C : Addr) (env : Env) : Env := { scope := scope, locals := C, globals := env.globals, cells := [], qual := env.qual, func := none, code := env.code, frame := env.frame, builtins := env.builtins }
section
variable {prog : Program} {w : World} {A : Around} {E : Value → Shared → Prop} {h : Heap} {gs : Array GenState} {dr : Drawn} {t : Nat} {os : OsState} {env : Env}
theorem gL {x : Str} {pos : Pos} {v : Value} {m : Str → Option Value} {Q : Value → Shared → Prop} (hn : h.Ns env.locals m) (hv : m x = some v) (q : Q v ⟨h, gs, dr, t, os⟩)
    (hk : env.scope.kind = .function := by rfl) (hl : env.kindOf x = some .local := by rfl) (hd : (x == ("__debug__" : Str)) = false := by decide) :
    wpAny (model prog w) A (eval (.Name x pos) env) Q E ⟨h, gs, dr, t, os⟩ := wpAny_Name (wpAny_loadName_local hk hl hn hv q) hd
theorem gG {x : Str} {pos : Pos} {v : Value} {Q : Value → Shared → Prop} (G : Gd w h) (e : nsIn (KK w) mainGlobals x = some (some v)) (q : Q v ⟨h, gs, dr, t, os⟩)
    (hg : env.globals = mainGlobals := by rfl) (hk : env.scope.kind = .function := by rfl) (hx : env.kindOf x = some .globalImplicit := by rfl) (hd : (x == ("__debug__" : Str)) = false := by decide) :
    wpAny (model prog w) A (eval (.Name x pos) env) Q E ⟨h, gs, dr, t, os⟩ := by
  obtain ⟨_, _, mg, _, T⟩ := G.T
  refine Calls.Name_function_global hk hx (Calls.loadGlobal_global (env := env) (mg := mg) ?_ (mg_of G.K T.g e) q) hd
  rw [hg]; exact T.g
inductive S3_I1 (gs : Array GenState) (dr : Drawn) (os : OsState) (ds : List AD) (h : Heap) (C : Addr) (I : Addr) (D : Addr) (l : Addr) (nn : Nat) (s' : Shared) : Prop
  | mk (h' : Heap) (m' : Str → Option Value) (tk : Nat) (ob : Obj) (n : Nat) (ps : List AD) (tups : List (Addr × Obj)) (i : Nat) : (s' = ⟨h', gs, dr, tk, os⟩) → (nn + i = ds.length) → (Fr h C h' m') → (News h C h' ((I, ob) :: (D, listOf (refs ps).toArray n) :: tups)) → (isLI ob l i) → ((∀ q ∈ tups, q.1 ≠ D ∧ q.1 ≠ I)) → ((∀ g0 : Heap, ∀ p ∈ ps, DIn g0 tups p)) → (ps.map (·.2) = backsOf ((ds.map (·.2)).take i)) → (ps.length ≤ i) → S3_I1 gs dr os ds h C I D l nn s'
/-- [back(d) for d in deeds if d's kind is 2] -/
theorem comp_back {elt iter cond : Expr} {x : Str} {px pos : Pos} {scope : Scope} {l : Addr} {ds : List AD} {Q : Value → Shared → Prop}
    (hfree : ∀ x ∈ scope.names, x.2 ≠ .free) (hkind : scope.kind = .function) (hnames : ∀ x ∈ scope.names, x.2 = .local → scope.names.lookup x.1 = some .local) (hcell : ∀ x ∈ scope.names, x.2 ≠ .cell) (hx : scope.names.lookup x = some .local)
    (hh : A.handled = none)
    (hit : ∀ (Q' E' : Value → Shared → Prop) , (∀ tk, Q' (.ref l) ⟨h, gs, dr, tk, os⟩) → wpAny (model prog w) A (eval iter env) Q' E' ⟨h, gs, dr, t, os⟩)
    (hl : h.IsList l (refs ds).toArray) (hD : DeedsAt h ds) (hlen : ds.length ≤ 900)
    (hcond : ∀ C h' m' tk (p : AD) (Q' : Bool → Shared → Prop) (E' : Value → Shared → Prop), h'.Ns C m' → m' x = some (.ref p.1) → DeedAt h' p.1 p.2 → (∀ tk', Q' (decide (p.2.kind = 2)) ⟨h', gs, dr, tk', os⟩) →
      wpAny (model prog w) A (isTrue cond (cEnv scope C env) (eval cond (cEnv scope C env))) Q' E' ⟨h', gs, dr, tk, os⟩)
    (helt : ∀ C h' m' tk (p : AD) (Q' E' : Value → Shared → Prop), Keep h h' → h'.Ns C m' → m' x = some (.ref p.1) → DeedAt h' p.1 p.2 →
      (∀ b vals h'' tk', Keep h' h'' → h'.get? b = none → h''.get? b = some (tupOf vals) → IntsAre vals (back p.2).toL → Q' (.ref b) ⟨h'', gs, dr, tk', os⟩) →
      wpAny (model prog w) A (eval elt (cEnv scope C env)) Q' E' ⟨h', gs, dr, tk, os⟩)
    (hQ : ∀ D n ps tups h' tk, Keep h h' → (∀ q ∈ (D, listOf (refs ps).toArray n) :: tups, h'.get? q.1 = some q.2 ∧ h.get? q.1 = none) → (∀ q ∈ tups, q.1 ≠ D) → (∀ g0 : Heap, ∀ p ∈ ps, DIn g0 tups p) → ps.map (·.2) = backsOf (ds.map (·.2)) → Q (.ref D) ⟨h', gs, dr, tk, os⟩)
    (hs : ∀ x, foldedSetIterable iter env x = pure x := by intro _; rfl) :
    wpAny (model prog w) A (eval (.ListComp elt [⟨.Name x px, iter, [cond], 0⟩] scope pos) env) Q E ⟨h, gs, dr, t, os⟩ := by
  refine wpAny_ListComp hfree hkind hnames (hit _ _ fun tk => ?_) hs
  refine wpAny_pyIter_list (s := ⟨h, gs, dr, tk, os⟩) hl ?_
  refine wpAny_newObj_type (wpAny_newFunctionEnv hcell (by intro y hy; simp at hy) (fun h₁ hns₁ hsb₁ => ?_) hkind)
  dsimp only at hns₁ hsb₁ ⊢
  -- I the iterator, D the list, C the frame
  have F1 : Keep h (h.push { cls := .type "list_iterator", data := .fields #[.ref l, .int 0 0] }) := fun _ _ e => Heap.get?_push_of_some _ e
  have eI : (h.push { cls := .type "list_iterator", data := .fields #[.ref l, .int 0 0] }).get? h.objs.size = some { cls := .type "list_iterator", data := .fields #[.ref l, .int 0 0] } := Heap.get?_push_size _ rfl
  have hz1 : (h.push { cls := .type "list_iterator", data := .fields #[.ref l, .int 0 0] }).objs.size = h.objs.size + 1 := Heap.size_push ..
  generalize h.push { cls := .type "list_iterator", data := .fields #[.ref l, .int 0 0] } = hA at hns₁ hsb₁ F1 eI hz1 ⊢
  have F2 : Keep hA (hA.push { cls := .type "list", data := .seq ([] : List Value).toArray }) := fun _ _ e => Heap.get?_push_of_some _ e
  have eD : (hA.push { cls := .type "list", data := .seq ([] : List Value).toArray }).get? hA.objs.size = some { cls := .type "list", data := .seq ([] : List Value).toArray } := Heap.get?_push_size _ rfl
  have hz2 : (hA.push { cls := .type "list", data := .seq ([] : List Value).toArray }).objs.size = hA.objs.size + 1 := Heap.size_push ..
  generalize hA.push { cls := .type "list", data := .seq ([] : List Value).toArray } = hB at hns₁ hsb₁ F2 eD hz2 ⊢
  have F3 : Keep hB h₁ := fun b o e => hsb₁.extBut b o (Nat.ne_of_lt (Heap.lt_size e)) (Heap.get?_push_of_some _ e)
  have eI₁ := F3 _ _ (F2 _ _ eI)
  have eD₁ := F3 _ _ eD
  generalize hIe : h.objs.size = I at *
  generalize hDe : hA.objs.size = D at *
  generalize hCe : hB.objs.size = C at *
  have hfr : ∀ a : Nat, I ≤ a → h.get? a = none := fun a ha => Heap.get?_none_of_le (by lia)
  have F : Fr h C h₁ _ := ⟨hns₁, fun b o e => F3 _ _ (F2 _ _ (F1 _ _ e)), by lia⟩
  have N : News h C h₁ [(D, listOf (refs []).toArray 0), (I, { cls := .type "list_iterator", data := .fields #[.ref l, .int 0 0] })] := by
    intro p hp
    simp only [List.mem_cons, List.not_mem_nil, or_false] at hp
    rcases hp with rfl | rfl
    · exact ⟨eD₁, by show D ≠ C; lia, hfr _ (by show I ≤ D; lia)⟩
    · exact ⟨eI₁, by show I ≠ C; lia, hfr _ (Nat.le_refl _)⟩
  have hID : I ≠ D := by lia
  have key : ∀ (R : Result → Shared → Prop) (tk : Nat), (∀ h' m' tk n ps tups, Fr h C h' m' → News h C h' ((D, listOf (refs ps).toArray n) :: tups) → (∀ q ∈ tups, q.1 ≠ D) → (∀ g0 : Heap, ∀ p ∈ ps, DIn g0 tups p) → ps.map (·.2) = backsOf (ds.map (·.2)) → R (.ok .next) ⟨h', gs, dr, tk, os⟩) →
      codeAny (model prog w) A (.compLoop (.ListComp elt [⟨.Name x px, iter, [cond], 0⟩] scope pos) 0 (.ref I) (.ref D) (cEnv scope C env)) R ⟨h₁, gs, dr, tk, os⟩ := by
    intro R tk hR
    have hx' : (cEnv scope C env).kindOf x = some .local := hx
    refine codeAny_compLoop_tests (S3_I1 gs dr os ds h C I D l) ?turn ds.length
      ⟨h₁, _, _, { cls := .type "list_iterator", data := .fields #[.ref l, .int 0 0] }, 0, [], [], 0, rfl, by lia, F, news_perm N (by intro q hq; simp only [List.mem_cons] at hq ⊢; rcases hq with h | h | h <;> simp [h]), ⟨rfl, rfl⟩, by simp, by simp, by simp [backsOf], by simp⟩
    case turn =>
      rintro nn s' ⟨h', m', tk, ob, n, ps, tups, i, rfl, hnn, F, N, ho, htu, hDi, hpe, hpl⟩
      have hlh : h'.IsList l (refs ds).toArray := let ⟨o, ho, z⟩ := hl; ⟨o, F.keep _ _ ho, z⟩
      have hrI : ∀ {y : Obj}, ∀ p ∈ (D, y) :: tups, p.1 ≠ I := neC (Ne.symm hID) fun p hp => (htu p hp).2
      cases nn with
      | zero =>
        have hi : i = ds.length := by lia
        refine wpAny_pyNext_list_end (s := ⟨h', gs, dr, tk, os⟩) hh ⟨ob, (N _ (.head _)).1, ho.1, ho.2⟩ hlh (by simp [refs]; lia) fun h'' hs => ?_
        obtain ⟨F, N⟩ := led_ext F N hrI hs
        refine hR _ _ _ n ps tups F N (fun q hq => (htu q hq).1) hDi ?_
        rw [hpe, hi, List.take_of_length_le (by simp)]
      | succ nn =>
        have hi : i < ds.length := by lia
        have hxx : ds[i]? = some ds[i] := by simp [hi]
        generalize ds[i] = p at hxx
        have hpm := List.mem_of_getElem? hxx
        have hpd : (ds.map (·.2))[i]? = some p.2 := by simp [hxx]
        refine x_list F N ho hrI hlh (v := .ref p.1) (by simp [refs, hxx]) fun ob' h'' F N ho' => ?_
        refine wpAny_assign_Name (wpAny_storeName_local hx' F.ns (fun h₃ hn hs => ?_) (by show (scope.kind == .class || (scope.kind == .module && C != env.globals)) = false; rw [hkind]; rfl))
        have F := F.set hn hs
        have N := N.set hs
        have hpa : ∀ {h₄ : Heap} {m₄}, Fr h C h₄ m₄ → DeedAt h₄ p.1 p.2 := fun F => (hD p hpm).keeps F.keep
        refine wpAny_tests_one (hcond C h₃ _ _ p _ _ F.ns (if_pos rfl) (hpa F) fun tk' => ?_)
        by_cases hk : p.2.kind = 2
        · rw [if_pos (by simpa using hk)]
          refine helt C h₃ _ _ p _ _ F.keep F.ns (if_pos rfl) (hpa F) fun b vals h₄ tk₄ hk4 hb hb4 hiv => ?_
          have hne : ∀ q ∈ (I, ob') :: (D, listOf (refs ps).toArray n) :: tups, q.1 ≠ b := fun q hq e => by have := (N q hq).1; rw [e, hb] at this; cases this
          have hbC : b ≠ C := fun e => by
            obtain ⟨oL, _, _, hL, _⟩ := F.ns
            rw [← e] at hL; rw [hb] at hL; cases hL
          have hb0 : h.get? b = none := by
            cases q : h.get? b with
            | none => rfl
            | some o => have := F.keep _ _ q; rw [hb] at this; cases this
          have F := kept_fr F hk4
          have N : News h C h₄ ((D, listOf (refs ps).toArray n) :: (I, ob') :: (b, tupOf vals) :: tups) := by
            intro q hq
            rcases List.mem_cons.mp hq with rfl | hq
            · exact kept_news N hk4 _ (.tail _ (.head _))
            rcases List.mem_cons.mp hq with rfl | hq
            · exact kept_news N hk4 _ (.head _)
            rcases List.mem_cons.mp hq with rfl | hq
            · exact ⟨hb4, hbC, hb0⟩
            · exact kept_news N hk4 _ (.tail _ (.tail _ hq))
          refine l_app F N (neC hID (neC (Ne.symm (hne _ (.tail _ (.head _)))) fun q hq => (htu q hq).1)) (by simp; lia) fun h₅ F N => ?_
          refine ⟨nn, by lia, _, _, _, ob', n + 1, ps ++ [(b, back p.2)], (b, tupOf vals) :: tups, i + 1, rfl, by lia, F, news_perm N ?_, ho', ?_, ?_, ?_, by simp; lia⟩
          · intro q hq; simp only [List.mem_cons] at hq ⊢; rcases hq with h | h | h | h
            · exact .inr (.inl h)
            · left; rw [h]; simp [refs]
            · exact .inr (.inr (.inl h))
            · exact .inr (.inr (.inr h))
          · intro q hq
            rcases List.mem_cons.mp hq with rfl | hq
            · exact ⟨Ne.symm (hne _ (.tail _ (.head _))), Ne.symm (hne _ (.head _))⟩
            · exact htu q hq
          · intro g0 q hq
            rcases List.mem_append.mp hq with hq | hq
            · exact (hDi g0 q hq).more
            · rw [List.mem_singleton.mp hq]; exact .new hiv
          · rw [List.take_succ, hpd, List.map_append, hpe, backsOf_append]; simp [backsOf, hk]
        · rw [if_neg (by simpa using hk)]
          refine ⟨nn, by lia, _, _, _, ob', n, ps, tups, i + 1, rfl, by lia, F, N, ho', htu, hDi, ?_, by lia⟩
          rw [List.take_succ, hpd, hpe, backsOf_append]; simp [backsOf, hk]
  refine codeAny_compStart_list (key _ _ ?fin) (wpAny_pyIter_listiter ⟨_, eI₁, rfl, rfl⟩ (key _ _ ?fin))
  intro h' m' tk n ps tups F N hne hDi hps
  refine ⟨m', F.ns, fun h'' hs'' => hQ D n ps tups h'' tk (fun b o e => hs''.extBut b o ?_ (F.keep b o e)) (fun q hq => ⟨hs''.extBut _ _ (N q hq).2.1 (N q hq).1, (N q hq).2.2⟩) hne hDi hps⟩
  intro e'
  have h1 : @LT.lt Nat _ b I := by rw [← hIe]; exact Heap.lt_size e
  have h2 : @Eq Nat b C := e'
  lia
end
end Mine
namespace Mine
local macro_rules | `(tactic| walk_at "lk") => `(tactic| first | with_reducible exact upd_eq | (refine upd_ne (by rfl) ?_; walk_at "lk") | with_reducible assumption | rfl)
local macro_rules | `(tactic| walk_at "nm") => `(tactic| refine nmL (by with_reducible assumption) (by walk_at "lk") ?_)
section
variable {prog : Program} {w : World} {A : Around} {E : Value → Shared → Prop} {s : Shared}
theorem adjust_to (a n : Nat) (ha : a ≤ n) : Builtin.Slice.sliceAdjust none (some (a : Int)) 1 (n : Int) = (0, (a : Int)) := by
  unfold Builtin.Slice.sliceAdjust
  have h1 : ¬ ((1 : Int) < 0) := by lia
  have h2 : ¬ ((a : Int) < 0) := by lia
  simp only [h1, h2, if_false]
  congr 1
  lia
theorem sliceApplied_to {sl : Addr} {a n : Nat} {u : Tok} {Q : Int × Int × Nat → Shared → Prop} (hs : s.heap.IsSliceOf sl .none (.int a u) .none) (ha : a ≤ n) (h : Q (0, 1, a) s) :
    wpAny (model prog w) A (Builtin.Slice.sliceApplied (.ref sl) (pure (n : Int))) Q E s := by
  obtain ⟨os, hos, hcs, hds⟩ := id hs
  unfold Builtin.Slice.sliceApplied Builtin.Slice.sliceFields
  refine wpAny_bind (wpAny_bind (wpAny_field hos hds (x := .none) rfl (wpAny_bind (wpAny_field hos hds (x := .int a u) rfl (wpAny_bind (wpAny_field hos hds (x := .none) rfl (wpAny_pure ?_)))))))
  refine wpAny_bind (slicePart_none ?_)
  show wpAny _ _ (if ((1 : Int) == 0) = true then _ else _) _ _ s
  rw [if_neg (by decide)]
  refine wpAny_bind (slicePart_none (wpAny_bind (slicePart_int (wpAny_bind (wpAny_pure ?_)))))
  show wpAny _ _ (match Builtin.Slice.sliceAdjust none (some (a : Int)) 1 (n : Int) with | (lo, hi) => pure (lo, (1 : Int), Builtin.Slice.slicePlaces lo hi 1)) _ _ s
  rw [adjust_to a n ha]
  show wpAny _ _ (pure ((0 : Int), (1 : Int), Builtin.Slice.slicePlaces 0 (a : Int) 1)) _ _ s
  have e := places_from 0 a (Nat.zero_le _)
  rw [show ((0 : Nat) : Int) = 0 from rfl] at e
  rw [e]
  exact wpAny_pure h
theorem pick_upto (xs : Array Value) (a : Nat) (ha : a ≤ xs.size) : ((List.range a).filterMap fun (k : Nat) => xs[((0 : Int) + (k : Int) * 1).toNat]?).toArray = (xs.toList.take a).toArray := by
  have e : (fun (k : Nat) => xs[((0 : Int) + (k : Int) * 1).toNat]?) = fun k => xs[0 + k]? := by
    funext k
    have : ((0 : Int) + (k : Int) * 1).toNat = 0 + k := by lia
    rw [this]
  rw [e]
  have := pick_run xs 0 a
  rw [List.filterMap_map] at this
  have e2 : ((fun x => xs[x]?) ∘ fun x => 0 + x) = fun k => xs[0 + k]? := rfl
  rw [e2] at this
  rw [this]; simp
theorem getItem_tuple_to {t sl : Addr} {items : Array Value} {a : Nat} {u : Tok} {Q : Value → Shared → Prop} (ht : IsTup s.heap t items) (hs : s.heap.IsSliceOf sl .none (.int a u) .none) (ha : a < items.size)
    (h : Q (.ref s.heap.objs.size) { s with heap := s.heap.push { cls := .type "tuple", data := .seq (items.toList.take a).toArray } })
    (hsz : items.size ≤ sizeLine := by size_fits) : wpAny (model prog w) A (getItem (.ref t) (.ref sl)) Q E s := by
  have hdrop : sizeOk (.seq (items.toList.take a).toArray) := by
    show (items.toList.take a).toArray.size ≤ sizeLine
    rw [List.size_toArray, List.length_take, Array.length_toList]
    lia
  obtain ⟨os, hos, hcs, hds⟩ := id hs
  have hTs : s.TypeIs (.ref sl) "slice" := ⟨os, hos, hcs⟩
  unfold getItem
  try with_reducible refine wpAny_holding ?_
  first | refine wpAny_bind (wpAny_pure ?_) | skip
  refine wpAny_bind (wpAny_sequenceKey ht.typeIs (by decide) ?_)
  refine wpAny_bind (wpAny_callSpecial?_slot (name := Str.ofString "__getitem__") ht.typeIs slot_tuple_getitem
    (wpAny_call_entry slot_tuple_getitem ht.typeIs entry_tuple_getitem ?_ (args_tuple_getitem _ _)))
  show wpAny _ _ (Builtin.Tuple.tupleItemsOf (.ref t) >>= _) _ _ s
  refine wpAny_bind (tupleItemsOf_ ht ?_)
  refine wpAny_bind (wpAny_typeOf hTs ?_)
  rw [if_pos (by decide)]
  refine wpAny_bind (sliceApplied_to hs (Nat.le_of_lt ha) ?_)
  have hno : ¬ (((0 : Int) == 0 && (1 : Int) == 1 && a == items.size) = true) := by
    have : (a == items.size) = false := by rw [beq_eq_false_iff_ne]; lia
    rw [this]; simp
  show wpAny _ _ (if ((0 : Int) == 0 && (1 : Int) == 1 && a == items.size) = true then _ else _) _ _ s
  rw [if_neg hno, pick_upto items a (Nat.le_of_lt ha)]
  first
    | exact wpAny_bind (m := Builtin.Tuple.tupleExact _) (wpAny_newObj_type (wpAny_pure ⟨_, rfl, wpAny_pure h⟩) hdrop)
    | exact wpAny_bind (m := Builtin.Tuple.tupleExact _) (wpAny_newObj_type (wpAny_bind (wpAny_pure (wpAny_pure ⟨_, rfl, wpAny_pure h⟩))) hdrop)
    | exact wpAny_bind (wpAny_bind (m := Builtin.Tuple.tupleExact _) (wpAny_newObj_type (wpAny_pure (wpAny_pure ⟨_, rfl, wpAny_pure h⟩)) hdrop))
    | exact wpAny_bind (wpAny_bind (m := Builtin.Tuple.tupleExact _) (wpAny_newObj_type (wpAny_pure ⟨_, rfl, wpAny_pure h⟩) hdrop))
end
section
variable {prog : Program} {w : World} {A : Around} {E : Value → Shared → Prop} {h : Heap} {gs : Array GenState} {dr : Drawn} {t : Nat} {os : OsState} {g : Heap} {L : Addr} {m : Str → Option Value} {rest : List (Addr × Obj)} {Q : Value → Shared → Prop}
theorem t_slice {value slice : Expr} {tu : Addr} {vs : List Value} {a : Nat} {u : Tok} (F : Fr g L h m) (N : News g L h rest) (ht : IsTup h tu vs.toArray) (ha : a < vs.length) (hz : vs.length ≤ 1000)
    (q : ∀ D h', Fr g L h' m → News g L h' ((D, tupOf (vs.take a)) :: rest) → (∀ p ∈ rest, p.1 ≠ D) → Q (.ref D) ⟨h', gs, dr, t, os⟩)
    (hs : subscripted slice false (.ref tu) (.ref h.objs.size) = operate [.ref h.objs.size, .ref tu] (getItem (.ref tu) (.ref h.objs.size)) := by with_unfolding_all rfl)
    (hg : ∀ r, letTemporaryGo value (.ref tu) r = pure () := by intro _; with_unfolding_all rfl) :
    wpAny (model prog w) A (subscriptTail value slice (.ref tu) (.ref h.objs.size)) Q E ⟨h.push { cls := .type "slice", data := .fields #[.none, .int a u, .none] }, gs, dr, t, os⟩ := by
  have ht' : IsTup (h.push { cls := .type "slice", data := .fields #[.none, .int a u, .none] }) tu vs.toArray := ht.keeps fun _ _ e => Heap.get?_push_of_some _ e
  refine subscriptTail_ops (s := ⟨h.push { cls := .type "slice", data := .fields #[.none, .int a u, .none] }, gs, dr, t, os⟩) ht'.typeIs slot_tuple_getitem.lookup
    (getItem_tuple_to ht' (Heap.IsSliceOf.new ..) (by simpa using ha) ?_ (by rw [sizeLine_eq, List.size_toArray]; lia)) hs hg
  have F1 := F.push { cls := .type "slice", data := .fields #[.none, .int a u, .none] }
  have N1 := News.push F1 (N.grown fun _ _ e => Heap.get?_push_of_some _ e) { cls := .type "tuple", data := .seq (vs.toArray.toList.take a).toArray }
  refine q _ _ (F1.push _) N1 fun p hp => Nat.ne_of_lt ?_
  have : @LT.lt Nat _ p.1 h.objs.size := Heap.lt_size (N p hp).1
  show @LT.lt Nat _ p.1 (h.push _).objs.size
  rw [Heap.size_push]; lia
theorem t_add {a b : Addr} {vs us : List Value} (F : Fr g L h m) (N : News g L h rest) (ha : IsTup h a vs.toArray) (hb : IsTup h b us.toArray) (h1 : vs ≠ []) (h2 : us ≠ []) (hz : vs.length + us.length ≤ 1000)
    (q : ∀ D h', Fr g L h' m → News g L h' ((D, tupOf (vs ++ us)) :: rest) → (∀ p ∈ rest, p.1 ≠ D) → Q (.ref D) ⟨h', gs, dr, t, os⟩) :
    wpAny (model prog w) A (binaryOp .Add (.ref a) (.ref b)) Q E ⟨h, gs, dr, t, os⟩ :=
  add_tuples (s := ⟨h, gs, dr, t, os⟩) F N ha hb (fun q => absurd q h1) (fun _ q => absurd q h2) (fun _ _ h' F' N' => q _ h' F' N' fun p hp => Nat.ne_of_lt (Heap.lt_size (N p hp).1)) (by rw [sizeLine_eq]; lia)
theorem l_rev {value slice : Expr} {l : Addr} {vs : List Value} {vk : Value} {ops : List Value} (F : Fr g L h m) (N : News g L h rest) (hl : h.IsList l vs.toArray) (pk : IsPart vk (some (-1))) (hz : vs.length ≤ 1000)
    (q : ∀ D h', Fr g L h' m → News g L h' ((D, listOf vs.reverse.toArray 0) :: rest) → (∀ p ∈ rest, p.1 ≠ D) → Q (.ref D) ⟨h', gs, dr, t, os⟩)
    (hs : subscripted slice false (.ref l) (.ref h.objs.size) = operate ops (getItem (.ref l) (.ref h.objs.size)) := by with_unfolding_all rfl)
    (ht : ∀ r, letTemporaryGo value (.ref l) r = pure () := by intro _; with_unfolding_all rfl) :
    wpAny (model prog w) A (subscriptTail value slice (.ref l) (.ref h.objs.size)) Q E ⟨h.push { cls := .type "slice", data := .fields #[.none, .none, vk] }, gs, dr, t, os⟩ :=
  krv_lit (s := ⟨h, gs, dr, t, os⟩) F N hl pk (zs := vs.reverse) (by simp) (fun D h' F' N' hlt => q D h' F' N' fun p hp => Nat.ne_of_lt (hlt p hp)) hs ht (by rw [sizeLine_eq, List.size_toArray]; lia)
end
end Mine
namespace Mine
local macro_rules | `(tactic| walk_at "lk") => `(tactic| first | with_reducible exact upd_eq | (refine upd_ne (by rfl) ?_; walk_at "lk") | with_reducible assumption | rfl)
local macro_rules | `(tactic| walk_at "nm") => `(tactic| refine nmL (by with_reducible assumption) (by walk_at "lk") ?_)
section
variable {prog : Program} {w : World} {A : Around} {E : Value → Shared → Prop} {h : Heap} {gs : Array GenState} {dr : Drawn} {t : Nat} {os : OsState} {Q : Value → Shared → Prop} {k : Nat}
/-- an int of a deed -/
theorem t_at {value slice : Expr} {a : Addr} {d : Deed} {u : Tok} {j : Nat} {x : Int} {Q : Value → Shared → Prop} (ha : DeedAt h a d) (hx : d.toL[j]? = some x) (q : ∀ tk, Q (.int x tk) ⟨h, gs, dr, t, os⟩)
    (hs : subscripted slice false (.ref a) (.int j u) = operate [.ref a, .int j u] (getItem (.ref a) (.int j u)) := by with_unfolding_all rfl) :
    wpAny (model prog w) A (subscriptTail value slice (.ref a) (.int j u)) Q E ⟨h, gs, dr, t, os⟩ := by
  obtain ⟨vals, ht, hi⟩ := ha
  obtain ⟨tk, hv⟩ := hi.get j x hx
  have hj : j < vals.length := (List.getElem?_eq_some_iff.mp hv).1
  have h7 : vals.length = 7 := hi.length
  refine item_tupleT (s := ⟨h, gs, dr, t, os⟩) ht (by lia) (by lia) (j := j) ?_ hv (q tk) hs
  rw [h7]
  have : j = 0 ∨ j = 1 ∨ j = 2 ∨ j = 3 ∨ j = 4 ∨ j = 5 ∨ j = 6 := by lia
  rcases this with rfl | rfl | rfl | rfl | rfl | rfl | rfl <;> rfl
theorem o_iaddE {a b c : Int} {t1 t2 : Tok} (e : a + b = c) (q : Q (.int c t) ⟨h, gs, dr, t + 1, os⟩) : wpAny (model prog w) A (inplaceOp .Add (.int a t1) (.int b t2)) Q E ⟨h, gs, dr, t, os⟩ := iadd_int (s := ⟨h, gs, dr, t, os⟩) (e ▸ q)
theorem start_at {nm : Int} {t0 t1 : Tok} (hn : nm = 0 ∨ nm = 1) : ∃ us, [Value.int 33188 t0, .int 16877 t1][nm.toNat]? = some (.int (startM nm : Nat) us) := by
  rcases hn with rfl | rfl <;> exact ⟨_, rfl⟩
theorem toldOf_take {ds : List Deed} {i : Nat} {d : Deed} (h : ds[i]? = some d) : (toldOf ds).take (i + 1) = (toldOf ds).take i ++ [(d, lawText (toldMode (ds.take (i + 1)) d.name))] := by
  have : (toldOf ds)[i]? = some (d, lawText (toldMode (ds.take (i + 1)) d.name)) := by simp [toldOf, h]
  rw [List.take_succ, this]; rfl
inductive E6_I1 (gs : Array GenState) (dr : Drawn) (os : OsState) (out : List AD) (h : Heap) (L : Addr) (K : Addr) (S : Addr) (n1 : Nat) (tups : List (Addr × Obj)) (itv : Value) (nn : Nat) (s' : Shared) : Prop
  | mk (h' : Heap) (m : Str → Option Value) (tk : Nat) (I : Addr) (vs : List Value) (e2 : Nat) (all : List (Addr × Obj)) (j : Nat) : (s' = ⟨h', gs, dr, tk, os⟩) → (itv = .ref I) → (nn + j = out.length) → (Fr h L h' m) → (News h L h' ((I, rngIt (j : Nat) (nn : Nat) 1) :: (K, listOf vs.toArray e2) :: (S, listOf (refs out).toArray n1) :: all)) → ((K ≠ I ∧ S ≠ I ∧ S ≠ K)) → ((∀ q ∈ all, q.1 ≠ I ∧ q.1 ≠ K)) → ((∀ q ∈ tups, q ∈ all)) → (EntsIn all vs ((toldOf (out.map (·.2))).take j)) → (m (Str.ofString "every") = some (.ref S)) → (m (Str.ofString "log") = some (.ref K)) → E6_I1 gs dr os out h L K S n1 tups itv nn s'
inductive E6_I2 (gs : Array GenState) (dr : Drawn) (os : OsState) (h : Heap) (L : Addr) (K : Addr) (out : List AD) (s' : Shared) : Prop
  | mk (h' : Heap) (m : Str → Option Value) (tk : Nat) (vs : List Value) (e2 : Nat) (all : List (Addr × Obj)) : (s' = ⟨h', gs, dr, tk, os⟩) → (Fr h L h' m) → (News h L h' ((K, listOf vs.toArray e2) :: all)) → (EntsIn all vs (toldOf (out.map (·.2)))) → (m (Str.ofString "log") = some (.ref K)) → E6_I2 gs dr os h L K out s'
inductive E6_I3 (gs : Array GenState) (dr : Drawn) (os : OsState) (j : Nat) (h : Heap) (L : Addr) (out : List AD) (I : Addr) (nn : Nat) (K : Addr) (vs : List Value) (e2 : Nat) (S : Addr) (n1 : Nat) (all : List (Addr × Obj)) (d : Deed) (tn : Tok) (tk₀ : Nat) (itv : Value) (cc : Nat) (s' : Shared) : Prop
  | mk (h' : Heap) (m : Str → Option Value) (tk : Nat) (J : Addr) (ob : Obj) (Z : Addr) (i : Nat) (u1 : Tok) (u2 : Tok) : (s' = ⟨h', gs, dr, tk, os⟩) → (itv = .ref J) → (cc + i = j + 1) → (Fr h L h' m) → (News h L h' ((J, ob) :: (Z, listOf (refs (out.take (j + 1)).reverse).toArray 0) :: (I, rngIt ((j : Nat) + 1) (((nn + 1 : Nat) : Int) - 1) 1) :: (K, listOf vs.toArray e2) :: (S, listOf (refs out).toArray n1) :: all)) → (isLI ob Z i) → ((Z ≠ J ∧ I ≠ J ∧ K ≠ J ∧ S ≠ J)) → ((∀ q ∈ all, q.1 ≠ J)) → (m (Str.ofString "mode") = some (.int (((((out.map (·.2)).take (j + 1)).reverse.take i).foldl (tellStep d.name) (0, 0)).1 : Nat) u1)) → (m (Str.ofString "known") = some (.int (((((out.map (·.2)).take (j + 1)).reverse.take i).foldl (tellStep d.name) (0, 0)).2 : Nat) u2)) → (m (Str.ofString "every") = some (.ref S)) → (m (Str.ofString "log") = some (.ref K)) → (m (Str.ofString "name") = some (.int d.name tn)) → (m (Str.ofString "k") = some (.int (j : Nat) tk₀)) → E6_I3 gs dr os j h L out I nn K vs e2 S n1 all d tn tk₀ itv cc s'
inductive E6_I4 (gs : Array GenState) (dr : Drawn) (os : OsState) (h : Heap) (L : Addr) (I : Addr) (j : Nat) (nn : Nat) (K : Addr) (vs : List Value) (e2 : Nat) (S : Addr) (out : List AD) (n1 : Nat) (all : List (Addr × Obj)) (d : Deed) (tn : Tok) (tk₀ : Nat) (s' : Shared) : Prop
  | mk (h' : Heap) (m : Str → Option Value) (tk : Nat) (u1 : Tok) (u2 : Tok) : (s' = ⟨h', gs, dr, tk, os⟩) → (Fr h L h' m) → (News h L h' ((I, rngIt ((j : Nat) + 1) (((nn + 1 : Nat) : Int) - 1) 1) :: (K, listOf vs.toArray e2) :: (S, listOf (refs out).toArray n1) :: all)) → (m (Str.ofString "mode") = some (.int (((((out.map (·.2)).take (j + 1)).reverse).foldl (tellStep d.name) (0, 0)).1 : Nat) u1)) → (m (Str.ofString "known") = some (.int (((((out.map (·.2)).take (j + 1)).reverse).foldl (tellStep d.name) (0, 0)).2 : Nat) u2)) → (m (Str.ofString "every") = some (.ref S)) → (m (Str.ofString "log") = some (.ref K)) → (m (Str.ofString "name") = some (.int d.name tn)) → (m (Str.ofString "k") = some (.int (j : Nat) tk₀)) → E6_I4 gs dr os h L I j nn K vs e2 S out n1 all d tn tk₀ s'
theorem told_call {D0 : Addr} {ds : List AD} (G : Gd w h) (hl : h.IsList D0 (refs ds).toArray) (hD : DeedsAt h ds) (hg : ∀ p ∈ ds, GoodD p.2) (hnd : (ds.map (·.2) ++ backsOf (ds.map (·.2))).Nodup) (h2 : 2 ≤ ds.length) (hlen : ds.length ≤ 20) (r : Room A (k + 2))
    (hQ : ∀ R ev h' tk as, Keep h h' → h.objs.size ≤ h'.objs.size → List.Perm ev (ds.map (·.2) ++ backsOf (ds.map (·.2))) → Sorted ev → Reads h' (.ref R) (.list ((toldOf ev).map entryD ++ [.str (Str.ofString "none left")])) as → Q (.ref R) ⟨h', gs, dr, tk, os⟩) :
    wpAny (model prog w) A (call (.ref 164) [.ref D0]) Q E ⟨h, gs, dr, t, os⟩ := by
  refine callw G (fun _ _ e => e) (Nat.le_refl _) (k := k + 1) r (f := 164) (binds := [(Str.ofString "deeds", .ref D0)]) rfl rfl rfl (locs rfl) fun L h₁ A' E' tk hL R F hk₁ => ?_
  have N : News h L h₁ [] := News.nil
  have hll : ∀ {h' : Heap}, Keep h h' → h'.IsList D0 (refs ds).toArray := fun k => let ⟨o, ho, x⟩ := hl; ⟨o, k _ _ ho, x⟩
  refine s_asg (Call_ (nmB F G rfl boot_sorted (by decide) (c_blt (first := []) (wpAny_items_cons (wpAny_BinOp ?_)))))
  walk_at "nm"
  refine comp_back (l := D0) (ds := ds) (by decide) rfl (by decide) (by decide) rfl R.handled (fun Q' E' hq => ?it) (hll F.keep) (fun p hp => (hD p hp).keeps F.keep) (by lia) ?cond ?elt fun B n ps tups h₂ tk hk₂ hnew hne hDi hps => ?_
  case it =>
    walk_at "nm"
    exact hq _
  case cond =>
    intro C h' m' tk p Q' E' hn hm hp hq
    refine wpAny_isTrue_Compare1 ?_
    refine Subscript_ (gL hn hm (e_int ?_))
    refine t_kind hp fun tk' => ?_
    refine e_int (eq_int (wpAny_truthy_bool ?_))
    have e : (p.2.kind == 2) = decide (p.2.kind = 2) := rfl
    rw [← e] at hq
    exact hq _
  case elt =>
    intro C h' m' tk p Q' E' hk hn hm hp hq
    have G' := G.keeps (fun b o e => hk b o (F.keep b o e))
    refine Call_ (gG G' (v := .ref 131) rfl (c_def rfl (wpAny_items_cons (gL hn hm (wpAny_items_nil ⟨G'.K, ?_⟩)))))
    exact back_call (k := 0) G' hp (R.less (by lia)) fun b vals h'' tk' a1 _ a3 a4 a5 => hq b vals h'' tk' a1 a3 a4 a5
  have N : News h L h₂ ((B, listOf (refs ps).toArray n) :: tups) := fun q hq => by
    obtain ⟨z1, z2⟩ := hnew q hq
    refine ⟨z1, fun e => ?_, ?_⟩
    · obtain ⟨oL, _, _, hL, _⟩ := F.ns
      rw [e] at z2; rw [z2] at hL; cases hL
    · cases x : h.get? q.1 with
      | none => rfl
      | some o => have := F.keep _ _ x; rw [z2] at this; cases this
  have F := kept_fr F hk₂
  have hDi' := hDi h
  have hpl : ps.length ≤ ds.length := by
    have := congrArg List.length hps
    simp only [List.length_map, backsOf] at this
    have h3 := List.length_filter_le (fun d : Deed => d.kind == 2) (ds.map (·.2))
    simp at h3; lia
  refine l_add F N (hll F.keep) ⟨_, (N _ (.head _)).1, rfl, _, rfl⟩ (by simp [refs]; lia) fun X h₃ F N hX => ?_
  have hrefs : refs ds ++ refs ps = refs (ds ++ ps) := by simp [refs]
  rw [hrefs] at N
  have hnd' : ((ds ++ ps).map (·.2)).Nodup := by rw [List.map_append, hps]; exact hnd
  refine wpAny_items_nil (c_sorted (ps := ds ++ ps) (bks := tups) F N ⟨_, (N _ (.head _)).1, rfl, _, rfl⟩ (fun q hq => .tail _ (.tail _ hq)) (fun p hp => ?_) (by simp; lia) (by simp; lia) hnd' fun S n1 out h₄ F N hS hperm hsort => ?_)
  · rcases List.mem_append.mp hp with hp | hp
    · exact .inl (hD p hp)
    · exact hDi' p hp
  have hpl2 : out.length = ds.length + ps.length := by have := hperm.length_eq; simpa using this
  have hmem : ∀ p ∈ out, DIn h tups p ∧ GoodD p.2 := fun p hp => by
    rcases List.mem_append.mp (hperm.mem_iff.mp hp) with hq | hq
    · exact ⟨.inl (hD p hq), hg p hq⟩
    · refine ⟨hDi' p hq, ?_⟩
      have : p.2 ∈ backsOf (ds.map (·.2)) := by rw [← hps]; exact List.mem_map_of_mem hq
      simp only [backsOf, List.mem_map, List.mem_filter] at this
      obtain ⟨d, ⟨⟨q, hq', rfl⟩, _⟩, hb⟩ := this
      have gq := hg q hq'
      rw [← hb]; exact gq
  have hNe : ∀ q ∈ tups, q.1 ≠ S := fun q hq => hS q (.tail _ (.tail _ hq))
  have N := news_perm (rest' := (S, listOf (refs out).toArray n1) :: tups) N (by
    intro q hq; simp only [List.mem_cons] at hq ⊢; rcases hq with h | h
    · exact .inl h
    · exact .inr (.inr (.inr h)))
  refine sto F N fun h₅ F N => ?_
  refine s_asg (List_ (wpAny_items_nil (n_list F N (by simp) fun K h₆ F N hK _ _ => ?_)))
  refine sto F N fun h₆ F N => ?_
  refine s_forJ (E6_I1 gs dr os out h L K S n1 tups)
    (E6_I2 gs dr os h L K out) ?iter ?turn ?done
  case iter =>
    refine Call_ (nmB F G rfl boot_range (by decide) (callWith_type1 (wpAny_items_cons (Call_ (nmB F G rfl boot_len (by decide) (c_blt (wpAny_items_cons ?_)))))))
    walk_at "nm"
    refine wpAny_items_nil (l_len (N _ (.tail _ (.head _))).1 (by simp [refs]; lia) fun te => wpAny_items_nil ?_)
    have hrl : (refs out).length = out.length := by simp [refs]
    rw [hrl]
    refine c_range (n := out.length) F N fun r t2 t3 h₇ tk F N hr => ?_
    refine i_rng F N (.head _) (by lia) fun I h₈ F N hI => ?_
    refine ⟨⟨out.length, _, _, _, I, [], 0, tups, 0, rfl, rfl, by lia, F, news_perm N ?_, ⟨hI _ (.tail _ (.head _)), hI _ (.tail _ (.tail _ (.head _))), fun q => hK _ (.head _) q⟩, fun q hq => ⟨hI _ (.tail _ (.tail _ (.tail _ hq))), hK _ (.tail _ hq)⟩, fun q hq => hq, .nil, by walk_at "lk", by walk_at "lk"⟩, fun v => rfl⟩
    intro q hq; simp only [List.mem_cons] at hq ⊢; rcases hq with h | h | h | h
    · exact .inl h
    · exact .inr (.inr (.inl h))
    · exact .inr (.inr (.inr (.inl h)))
    · exact .inr (.inr (.inr (.inr h)))
  case turn =>
    rintro itv nn s' ⟨h', m, tk₀, I, vs, e2, all, j, rfl, rfl, hnn, F, N, ⟨a1, a2, a3⟩, hal, htl, hent, m1, m2⟩
    have hrI : ∀ {x y : Obj}, ∀ p ∈ (K, x) :: (S, y) :: all, p.1 ≠ I := neC a1 (neC a2 fun p hp => (hal p hp).1)
    cases nn with
    | zero =>
      have hj : j = out.length := by lia
      refine x_rng0 R F N hrI (by lia) fun h'' F N => ?_
      refine ⟨_, _, _, vs, e2, all, rfl, F, news_perm N ?_, ?_, m2⟩
      · intro q hq; simp only [List.mem_cons] at hq ⊢; rcases hq with h | h
        · exact .inl h
        · exact .inr (.inr h)
      · rwa [hj, List.take_of_length_le (by simp [toldOf])] at hent
    | succ nn =>
      have hj : j < out.length := by lia
      have hx : out[j]? = some out[j] := by simp [hj]
      generalize out[j] = x at hx
      obtain ⟨xa, d⟩ := x
      have hxm := List.mem_of_getElem? hx
      have hd : (out.map (·.2))[j]? = some d := by simp [hx]
      have gd : GoodD d := (hmem _ hxm).2
      have ol : out.length ≤ 40 := by lia
      have hat : ∀ {h' : Heap} {m' rest'}, Fr h L h' m' → News h L h' rest' → (∀ q ∈ tups, q ∈ rest') → ∀ p ∈ out, DeedAt h' p.1 p.2 := fun F N hs p hp => (hmem p hp).1.at F N hs
      refine x_rng F N hrI (by lia) fun h'' F N => ?_
      refine wpAny_assign_Name (sto F N fun h₃ F N => ?_)
      refine wpAny_post fun P hP => ?_
      -- name
      refine s_asg (Subscript_ (Subscript_ ?_))
      walk_at "nm"
      walk_at "nm"
      refine l_getN (i := j) (N _ (.tail _ (.tail _ (.head _)))).1 hx (by lia) (e_int ?_)
      refine t_at (j := 3) (x := d.name) (hat F N (fun q hq => .tail _ (.tail _ (.tail _ (htl q hq)))) _ hxm) rfl fun tn => ?_
      refine sto F N fun h₃ F N => ?_
      -- mode, known
      refine s_tup (Tuple_ (wpAny_items_cons (e_int (wpAny_items_cons (e_int (wpAny_items_nil (n_tup F N (by simp) fun T h₄ F N hT _ _ => ?_)))))))
      refine a_tup F N ⟨_, (N _ (.head _)).1, rfl, _, rfl⟩ R rfl rfl fun h₄ F N => ?_
      have N := news_perm (rest' := (I, rngIt ((j : Nat) + 1) (((nn + 1 : Nat) : Int) - 1) 1) :: (K, listOf vs.toArray e2) :: (S, listOf (refs out).toArray n1) :: all) N fun q hq => .tail _ hq
      refine assignInOrder_cons (wpAny_assign_Name (sto F N fun h₄ F N => ?_))
      refine assignInOrder_cons (wpAny_assign_Name (sto F N fun h₄ F N => ?_))
      refine assignInOrder_nil ?_
      -- the inner loop
      refine s_forJ (E6_I3 gs dr os j h L out I nn K vs e2 S n1 all d tn tk₀)
        (E6_I4 gs dr os h L I j nn K vs e2 S out n1 all d tn tk₀) ?iter2 ?turn2 ?done2
      case iter2 =>
        refine Subscript_ (Subscript_ ?_)
        walk_at "nm"
        refine wpAny_Slice (evalPart_none_step (evalPart_some_step (wpAny_BinOp ?_)))
        walk_at "nm"
        refine e_int (o_addE (c := ((j + 1 : Nat) : Int)) (by lia) (evalPart_none_step ?_))
        have e0 : slicePick (refs out).toArray none (some ((j + 1 : Nat) : Int)) none = (refs (out.take (j + 1))).toArray := by
          rw [pick_to _ _ (by simp [refs]; lia)]; simp [refs]
        refine l_slice F N ⟨_, (N _ (.tail _ (.tail _ (.head _)))).1, rfl, _, rfl⟩ .none (.int _ _) e0 (by simp [refs]; lia) fun Y h₅ F N hY => ?_
        refine wpAny_Slice (evalPart_none_step (evalPart_none_step (evalPart_some_step (wpAny_UnaryOp (e_int (o_neg ?_))))))
        refine kba_turn (value' := PySem.Expr.Name (PySem.Str.ofString "x") ⟨0, 0, 0, 0⟩) (fun _ => rfl) ?_
        refine l_rev F N ⟨_, (N _ (.head _)).1, rfl, _, rfl⟩ (.int _ _) (by simp [refs]; lia) fun Z h₆ F N hZ => ?_
        have er : (refs (out.take (j + 1))).reverse = refs (out.take (j + 1)).reverse := by simp [refs]
        rw [er] at N
        refine i_list F N ⟨_, (N _ (.head _)).1, rfl, _, rfl⟩ fun J ob h₇ F N ho hJ hZJ => ?_
        refine ⟨⟨j + 1, _, _, _, J, ob, Z, 0, _, _, rfl, rfl, by lia, F, news_perm N ?_, ho, ⟨hZJ, hJ _ (.tail _ (.tail _ (.head _))), hJ _ (.tail _ (.tail _ (.tail _ (.head _)))), hJ _ (.tail _ (.tail _ (.tail _ (.tail _ (.head _)))))⟩, fun q hq => hJ _ (.tail _ (.tail _ (.tail _ (.tail _ (.tail _ hq))))), by walk_at "lk", by walk_at "lk", by walk_at "lk", by walk_at "lk", by walk_at "lk", by walk_at "lk"⟩, fun v => rfl⟩
        intro q hq; simp only [List.mem_cons] at hq ⊢; rcases hq with h | h | h
        · exact .inl h
        · exact .inr (.inl h)
        · exact .inr (.inr (.inr h))
      case turn2 =>
        rintro itv cc s' ⟨h', m', tk₁, J, ob, Z, i, u1, u2, rfl, rfl, hcc, F, N, ho, ⟨b1, b2, b3, b4⟩, hbl, z1, z2, z3, z4, z5, z6⟩
        have hrJ : ∀ {x y z u : Obj}, ∀ p ∈ (Z, x) :: (I, y) :: (K, z) :: (S, u) :: all, p.1 ≠ J := neC b1 (neC b2 (neC b3 (neC b4 hbl)))
        have hZl : h'.IsList Z (refs (out.take (j + 1)).reverse).toArray := ⟨_, (N _ (.tail _ (.head _))).1, rfl, _, rfl⟩
        have hlen3 : (out.take (j + 1)).reverse.length = j + 1 := by simp; lia
        cases cc with
        | zero =>
          have hi : i = j + 1 := by lia
          refine x_list0 R F N ho hrJ hZl (by simp [refs]; lia) fun h'' F N => ?_
          rw [List.take_of_length_le (by simp; lia)] at z1 z2
          exact ⟨_, _, _, u1, u2, rfl, F, news_perm N fun q hq => .tail _ hq, z1, z2, z3, z4, z5, z6⟩
        | succ cc =>
          have hi : i < j + 1 := by lia
          obtain ⟨⟨ya, e⟩, hp⟩ : ∃ p, (out.take (j + 1)).reverse[i]? = some p := ⟨_, List.getElem?_eq_getElem (by lia)⟩
          have hym : (ya, e) ∈ out := List.mem_of_mem_take (List.mem_reverse.mp (List.mem_of_getElem? hp))
          obtain ⟨-, hb0, hb1⟩ : GoodD e := (hmem _ hym).2
          have hbn : e.bits = ((e.bits.toNat : Nat) : Int) := by lia
          have he : ((out.map (·.2)).take (j + 1)).reverse[i]? = some e := by rw [← List.map_take, ← List.map_reverse, List.getElem?_map, hp]; rfl
          have htake : ((out.map (·.2)).take (j + 1)).reverse.take (i + 1) = ((out.map (·.2)).take (j + 1)).reverse.take i ++ [e] := by rw [List.take_succ, he]; rfl
          generalize hst : (((out.map (·.2)).take (j + 1)).reverse.take i).foldl (tellStep d.name) (0, 0) = st at z1 z2
          have hfold : (((out.map (·.2)).take (j + 1)).reverse.take (i + 1)).foldl (tellStep d.name) (0, 0) = tellStep d.name st e := by rw [htake, List.foldl_append, hst]; rfl
          refine x_list F N ho hrJ hZl (v := .ref ya) (by simp only [refs, List.getElem?_map, hp]; rfl) fun ob' h'' F N ho' => ?_
          refine wpAny_assign_Name (sto F N fun h₃ F N => ?_)
          refine wpAny_post fun P2 hP2 => ?_
          have hya : ∀ {h' : Heap} {m' x y z u v}, Fr h L h' m' → News h L h' (x :: y :: z :: u :: v :: all) → DeedAt h' ya e := fun F N => hat F N (fun q hq => .tail _ (.tail _ (.tail _ (.tail _ (.tail _ (htl q hq)))))) _ hym
          refine s_if (wpAny_isTrue_Compare1 ?_)
          refine Subscript_ ?_
          walk_at "nm"
          refine e_int (t_at (j := 3) (x := e.name) (hya F N) rfl fun tk' => ?_)
          walk_at "nm"
          refine eq_int (wpAny_truthy_bool (ite_b (fun hb => ?_) fun hb => ?_))
          · have hnm : e.name = d.name := by simpa using hb
            refine s_tup (Call_ (nmG F G (v := .ref 152) rfl (c_def rfl (wpAny_items_cons (Subscript_ ?_)))))
            walk_at "nm"
            refine e_int (t_at (j := 4) (x := e.kind) (hya F N) rfl fun tk4 => ?_)
            refine wpAny_items_cons (Subscript_ ?_)
            walk_at "nm"
            refine e_int (t_at (j := 5) (x := ((e.bits.toNat : Nat) : Int)) (hya F N) (congrArg some hbn) fun tk5 => ?_)
            refine wpAny_items_nil ⟨G.K.keeps F.keep, says_call (k := 0) (G.keeps F.keep) (R.less (by lia)) fun T v1 v2 h₄ tk hk _ _ hT => ?_⟩
            have F := kept_fr F hk
            have N := kept_news N hk
            have h1 : tellStep d.name st e = (st.1 + ((saysOf e.kind e.bits.toNat).2 &&& ((saysOf e.kind e.bits.toNat).1 - ((saysOf e.kind e.bits.toNat).1 &&& st.2))), st.2 + ((saysOf e.kind e.bits.toNat).1 - ((saysOf e.kind e.bits.toNat).1 &&& st.2))) := by
              unfold tellStep; rw [if_pos hnm]
            generalize saysOf e.kind e.bits.toNat = sy at hT h1
            obtain ⟨mk, vl⟩ := sy
            obtain ⟨md, kn⟩ := st
            simp only at h1 hT z1 z2
            refine a_tup F N ⟨_, hT, rfl, _, rfl⟩ R rfl rfl fun h₄ F N => ?_
            refine assignInOrder_cons (wpAny_assign_Name (sto F N fun h₄ F N => ?_))
            refine assignInOrder_cons (wpAny_assign_Name (sto F N fun h₄ F N => ?_))
            refine assignInOrder_nil ?_
            have hle := Nat.and_le_left (n := mk) (m := kn)
            refine s_asg (wpAny_BinOp ?_)
            walk_at "nm"
            refine wpAny_BinOp ?_
            walk_at "nm"
            walk_at "nm"
            refine o_andE (band_nat mk kn) (o_subE (c := ((mk - (mk &&& kn) : Nat) : Int)) (by lia) ?_)
            refine sto F N fun h₄ F N => ?_
            refine s_aug (ldN F (by walk_at "lk") (wpAny_BinOp ?_))
            walk_at "nm"
            walk_at "nm"
            refine o_andE (band_nat vl (mk - (mk &&& kn))) (o_iaddE (c := ((md + (vl &&& (mk - (mk &&& kn))) : Nat) : Int)) (by lia) ?_)
            refine sto F N fun h₄ F N => ?_
            refine s_aug (ldN F (by walk_at "lk") ?_)
            walk_at "nm"
            refine o_iaddE (c := ((kn + (mk - (mk &&& kn)) : Nat) : Int)) (by lia) ?_
            refine sto F N fun h₄ F N => ?_
            refine s_nil (then_next (s_nil (hP2 .next _ ⟨cc, by lia, _, _, _, J, ob', Z, i + 1, _, _, rfl, rfl, by lia, F, N, ho', ⟨b1, b2, b3, b4⟩, hbl, by rw [hfold, h1]; walk_at "lk", by rw [hfold, h1]; walk_at "lk", by walk_at "lk", by walk_at "lk", by walk_at "lk", by walk_at "lk"⟩)))
          · have hnm : e.name ≠ d.name := by simpa using hb
            have h1 : tellStep d.name st e = st := by unfold tellStep; rw [if_neg hnm]
            refine s_nil (then_next (s_nil (hP2 .next _ ⟨cc, by lia, _, _, _, J, ob', Z, i + 1, u1, u2, rfl, rfl, by lia, F, N, ho', ⟨b1, b2, b3, b4⟩, hbl, by rw [hfold, h1]; walk_at "lk", by rw [hfold, h1]; walk_at "lk", by walk_at "lk", by walk_at "lk", by walk_at "lk", by walk_at "lk"⟩)))
      case done2 =>
        rintro s' ⟨h', m', tk₁, u1, u2, rfl, F, N, z1, z2, z3, z4, z5, z6⟩
        have htm : toldMode ((out.map (·.2)).take (j + 1)) d.name = tellEnd d.name (((out.map (·.2)).take (j + 1)).reverse.foldl (tellStep d.name) (0, 0)) := rfl
        have htlt : toldMode ((out.map (·.2)).take (j + 1)) d.name < 65536 := by
          have hgg : ∀ x ∈ (out.map (·.2)).take (j + 1), GoodD x := fun x hx => by
            obtain ⟨p, hp, rfl⟩ := List.mem_map.mp (List.mem_of_mem_take hx)
            exact (hmem p hp).2
          rw [told_eq _ _ hgg]; exact modeOf_lt _ _ hgg
        generalize hst : ((out.map (·.2)).take (j + 1)).reverse.foldl (tellStep d.name) (0, 0) = st at z1 z2 htm
        obtain ⟨md, kn⟩ := st
        simp only at z1 z2
        refine s_asg (Subscript_ (List_ (wpAny_items_cons (e_int (wpAny_items_cons (e_int (wpAny_items_nil (n_list F N (by simp) fun D h₅ F N hD _ _ => ?_))))))))
        walk_at "nm"
        obtain ⟨ws, ⟨us, hws⟩, N⟩ : ∃ ws : List Value, (∃ us, ws[d.name.toNat]? = some (.int (startM d.name : Nat) us)) ∧ News h L h₅ ((D, listOf ws.toArray 0) :: (I, rngIt ((j : Nat) + 1) (((nn + 1 : Nat) : Int) - 1) 1) :: (K, listOf vs.toArray e2) :: (S, listOf (refs out).toArray n1) :: all) :=
          ⟨_, start_at gd.1, N⟩
        refine l_get (v := .int (startM d.name : Nat) us) (N _ (.head _)).1 (by have := gd.1; lia) (by have := gd.1; lia) hws ?_
        have N := news_perm (rest' := (I, rngIt ((j : Nat) + 1) (((nn + 1 : Nat) : Int) - 1) 1) :: (K, listOf vs.toArray e2) :: (S, listOf (refs out).toArray n1) :: all) N fun q hq => .tail _ hq
        refine sto F N fun h₅ F N => ?_
        refine s_aug (ldN F (by walk_at "lk") (wpAny_BinOp ?_))
        walk_at "nm"
        refine wpAny_BinOp ?_
        walk_at "nm"
        walk_at "nm"
        have hle := Nat.and_le_left (n := startM d.name) (m := kn)
        refine o_andE (band_nat (startM d.name) kn) (o_subE (c := ((startM d.name - (startM d.name &&& kn) : Nat) : Int)) (by lia) ?_)
        refine o_iaddE (c := ((toldMode ((out.map (·.2)).take (j + 1)) d.name : Nat) : Int)) (by rw [htm]; simp only [tellEnd]; lia) ?_
        refine sto F N fun h₅ F N => ?_
        refine s_expr (MethodCall_ ?_)
        walk_at "nm"
        refine l_meth (N _ (.tail _ (.head _))).1 PySem.F.slot_list_append PySem.F.type_list_append (c_blt (wpAny_items_cons (wpAny_BinOp (Subscript_ (Subscript_ ?_)))))
        walk_at "nm"
        walk_at "nm"
        refine l_getN (i := j) (N _ (.tail _ (.tail _ (.head _)))).1 hx (by lia) ?_
        refine wpAny_Slice (evalPart_none_step (evalPart_some_step (e_int (evalPart_none_step ?_))))
        obtain ⟨vals, ht, hiv⟩ : DeedAt h₅ xa d := hat F N (fun q hq => .tail _ (.tail _ (.tail _ (htl q hq)))) _ hxm
        obtain ⟨t0, t1, t2, t3, t4, t5, t6, rfl⟩ := deed_vals hiv
        refine kba_turn (value' := PySem.Expr.Name (PySem.Str.ofString "x") ⟨0, 0, 0, 0⟩) (fun _ => rfl) ?_
        refine t_slice (a := 3) F N ht (by simp) (by simp) fun V h₆ F N hV => ?_
        refine Tuple_ (wpAny_items_cons (Call_ (nmG F G (v := .ref 159) rfl (c_def rfl (wpAny_items_cons ?_)))))
        walk_at "nm"
        refine wpAny_items_nil ⟨G.K.keeps F.keep, text_call (k := 0) (G.keeps F.keep) htlt (R.less (by lia)) fun h₇ tk u hk _ => ?_⟩
        have F := kept_fr F hk
        have N := kept_news N hk
        refine wpAny_items_nil (n_tup F N (by simp) fun U h₈ F N hU _ _ => ?_)
        refine t_add F N ⟨_, (N _ (.tail _ (.head _))).1, rfl, _, rfl⟩ ⟨_, (N _ (.head _)).1, rfl, _, rfl⟩ (by simp) (by simp) (by simp) fun T h₉ F N hT => wpAny_items_nil ?_
        have hTK : T ≠ K := fun q => hT _ (.tail _ (.tail _ (.tail _ (.head _)))) q.symm
        have hTI : T ≠ I := fun q => hT _ (.tail _ (.tail _ (.head _))) q.symm
        have N := news_perm (rest' := (K, listOf vs.toArray e2) :: (T, tupOf [.int d.hour t0, .int d.place t1, .int d.stage t2, .str (lawText (toldMode ((out.map (·.2)).take (j + 1)) d.name)) u]) :: (I, rngIt ((j : Nat) + 1) (((nn + 1 : Nat) : Int) - 1) 1) :: (S, listOf (refs out).toArray n1) :: all) N (by
          intro q hq; simp only [List.mem_cons] at hq ⊢; rcases hq with h | h | h | h | h
          · exact .inr (.inr (.inr (.inr (.inl h))))
          · exact .inl h
          · exact .inr (.inr (.inr (.inl h)))
          · exact .inr (.inr (.inr (.inr (.inr (.inl h)))))
          · exact .inr (.inr (.inr (.inr (.inr (.inr h))))))
        have hvl : vs.length ≤ 100 := by have := hent.length; simp [toldOf] at this; lia
        refine l_app F N (neC hTK (neC (Ne.symm a1) (neC a3 fun p hp => (hal p hp).2))) (by lia) fun h₇ F N => ?_
        refine s_nil (hP .next _ ⟨nn, by lia, _, _, _, I, vs ++ [.ref T], e2 + 1, (T, tupOf [.int d.hour t0, .int d.place t1, .int d.stage t2, .str (lawText (toldMode ((out.map (·.2)).take (j + 1)) d.name)) u]) :: all, j + 1, rfl, rfl, by lia, F, news_perm N ?_, ⟨a1, a2, a3⟩, ?_, fun q hq => .tail _ (htl q hq), ?_, by walk_at "lk", by walk_at "lk"⟩)
        · rw [show ((j + 1 : Nat) : Int) = (j : Int) + 1 by lia, show ((nn : Nat) : Int) = ((nn + 1 : Nat) : Int) - 1 by lia]
          intro q hq; simp only [List.mem_cons] at hq ⊢; rcases hq with h | h | h | h | h
          · exact .inr (.inr (.inl h))
          · exact .inl h
          · exact .inr (.inr (.inr (.inl h)))
          · exact .inr (.inl h)
          · exact .inr (.inr (.inr (.inr h)))
        · intro q hq
          rcases List.mem_cons.mp hq with rfl | hq
          · exact ⟨hTI, hTK⟩
          · exact hal q hq
        · rw [toldOf_take hd]
          exact EntsIn.snoc (e := (d, lawText (toldMode ((out.map (·.2)).take (j + 1)) d.name))) ⟨T, t0, t1, t2, u, rfl, .head _⟩ (hent.more fun p hp => .tail _ hp)
  case done =>
    rintro s' ⟨h', m, tk, vs, e2, all, rfl, F, N, hent, m2⟩
    refine s_ret (wpAny_BinOp ?_)
    walk_at "nm"
    refine List_ (wpAny_items_cons (e_str (wpAny_items_nil (n_list F N (by simp) fun Y h₃ F N hY _ _ => ?_))))
    have hvl := hent.length
    refine l_add F N ⟨_, (N _ (.tail _ (.head _))).1, rfl, _, rfl⟩ ⟨_, (N _ (.head _)).1, rfl, _, rfl⟩ (by simp [toldOf] at hvl; simp; lia) fun Z h₄ F N hZ => ?_
    obtain ⟨as, ra⟩ := hent.reads (news_perm N fun p hp => .tail _ (.tail _ (.tail _ hp)))
    obtain ⟨bs, rb⟩ := reads_end (vs := []) (ds := []) (as := []) (.str (Str.ofString "none left") _) ra
    refine hQ Z (out.map (·.2)) h₄ _ _ F.keep (frame_size F hL) ?_ hsort (.list (N _ (.head _)).1 rfl rfl (by simpa using rb))
    have := hperm.map (·.2)
    rwa [List.map_append, hps] at this
end
end Mine
namespace Mine
local macro_rules | `(tactic| walk_at "lk") => `(tactic| first | with_reducible exact upd_eq | (refine upd_ne (by rfl) ?_; walk_at "lk") | with_reducible assumption | rfl)
local macro_rules | `(tactic| walk_at "nm") => `(tactic| refine nmL (by with_reducible assumption) (by walk_at "lk") ?_)
/-! what stays where only a frame's own object is changed -/
section
variable {g h h' : Heap} {L l a : Addr} {m : Str → Option Value} {d : Deed}
theorem ne_frame (F : Fr g L h m) {b : Addr} {o : Obj} {vs : Array Value} {n : Nat} (e : h.get? b = some o) (hd : o.data = .seq vs n) : b ≠ L := by
  rintro rfl
  obtain ⟨oL, es, ep, hL, hdL, _⟩ := F.ns
  rw [e] at hL; cases hL
  rw [hd] at hdL; cases hdL
theorem list_stay {vs : Array Value} (x : h.IsList l vs) (F : Fr g L h m) (st : Heap.ExtBut L h h') : h'.IsList l vs := by
  obtain ⟨o, ho, hc, n, hd⟩ := x
  exact ⟨o, st _ _ (ne_frame F ho hd) ho, hc, n, hd⟩
theorem DeedAt.stay (x : DeedAt h a d) (F : Fr g L h m) (st : Heap.ExtBut L h h') : DeedAt h' a d := by
  obtain ⟨vals, ⟨o, ho, hc, n, hd⟩, hi⟩ := x
  exact ⟨vals, ⟨o, st _ _ (ne_frame F ho hd) ho, hc, n, hd⟩, hi⟩
theorem deeds_stay {ps : List AD} (x : DeedsAt h ps) (F : Fr g L h m) (st : Heap.ExtBut L h h') : DeedsAt h' ps := fun p hp => (x p hp).stay F st
theorem ext_keep (k : Keep h h') : Heap.ExtBut L h h' := fun b o _ e => k b o e
end

/-! what _law_course gives, as data -/
def deedD (d : Deed) : PyData := .tuple (d.toL.map .int)
def pairD (tps co : List Deed) : PyData := .tuple [.list (tps.map deedD), .list (co.map deedD ++ [.str (Str.ofString "none left")])]
def Crs (h : Heap) (tl cl : Addr) (tps co : List AD) : Prop := h.IsList tl (refs tps).toArray ∧ (∃ ts, h.IsList cl (refs co ++ [Value.str (Str.ofString "none left") ts]).toArray) ∧ DeedsAt h tps ∧ DeedsAt h co
section
variable {g h h' : Heap} {L tl cl : Addr} {m : Str → Option Value} {tps co : List AD}
theorem Crs.stay (x : Crs h tl cl tps co) (F : Fr g L h m) (st : Heap.ExtBut L h h') : Crs h' tl cl tps co :=
  ⟨list_stay x.1 F st, let ⟨ts, y⟩ := x.2.1; ⟨ts, list_stay y F st⟩, deeds_stay x.2.2.1 F st, deeds_stay x.2.2.2 F st⟩
theorem deed_reads {a : Addr} {d : Deed} (x : DeedAt h a d) : Reads h (.ref a) (deedD d) [] := by
  obtain ⟨vals, ⟨o, ho, hc, n, hd⟩, hi⟩ := x
  exact .tuple ho hc hd (IntsAre.reads h hi)
theorem deeds_reads : ∀ {ps : List AD}, DeedsAt h ps → ReadsAll h (refs ps) ((ps.map (·.2)).map deedD) []
  | [], _ => .nil
  | p :: ps, x => ReadsAll.cons (as := []) (bs := []) (deed_reads (x p (.head _))) (deeds_reads fun q hq => x q (.tail _ hq))
theorem Crs.reads {T : Addr} (x : Crs h tl cl tps co) (hT : IsTup h T [Value.ref tl, .ref cl].toArray) : ∃ as, Reads h (.ref T) (pairD (tps.map (·.2)) (co.map (·.2))) as := by
  obtain ⟨⟨o1, h1, c1, n1, d1⟩, ⟨ts, o2, h2, c2, n2, d2⟩, x3, x4⟩ := x
  obtain ⟨o, ho, hc, n, hd⟩ := hT
  obtain ⟨as, r⟩ := reads_end (vs := []) (ds := []) (as := []) (.str (Str.ofString "none left") ts) (deeds_reads x4)
  exact ⟨_, .tuple ho hc hd (.cons (.list h1 c1 d1 (deeds_reads x3)) (.cons (.list h2 c2 d2 r) .nil))⟩
end
theorem lay_app : ∀ (a b : List PyData), PyData.canLayAll0 (a ++ b) = (PyData.canLayAll0 a && PyData.canLayAll0 b)
  | [], _ => by simp [PyData.canLayAll0]
  | x :: a, b => by simp only [List.cons_append, PyData.canLayAll0, lay_app a b, Bool.and_assoc]
theorem depth_app : ∀ (a b : List PyData), PyData.depthAll (a ++ b) = max (PyData.depthAll a) (PyData.depthAll b)
  | [], _ => by simp [PyData.depthAll]
  | x :: a, b => by simp only [List.cons_append, PyData.depthAll, depth_app a b, Nat.max_assoc]
theorem lay_all : ∀ (l : List PyData), (∀ d ∈ l, d.canLay0 = true) → PyData.canLayAll0 l = true
  | [], _ => rfl
  | x :: l, h => by simp only [PyData.canLayAll0, h x (.head _), lay_all l fun d hd => h d (.tail _ hd), Bool.and_self]
theorem depth_all {k : Nat} : ∀ (l : List PyData), (∀ d ∈ l, d.depth ≤ k) → PyData.depthAll l ≤ k
  | [], _ => Nat.zero_le _
  | x :: l, h => by
    have h1 := h x (.head _)
    have h2 := depth_all l fun d hd => h d (.tail _ hd)
    simp only [PyData.depthAll]; lia
theorem deedD_lay (d : Deed) : (deedD d).canLay0 = true := rfl
theorem deedD_depth (d : Deed) : (deedD d).depth ≤ 1 := Nat.le_refl 1
theorem deeds_lay (l : List Deed) : PyData.canLayAll0 (l.map deedD) = true := lay_all _ fun d hd => by
  obtain ⟨x, _, rfl⟩ := List.mem_map.mp hd; exact deedD_lay x
theorem deeds_depth (l : List Deed) : PyData.depthAll (l.map deedD) ≤ 1 := depth_all _ fun d hd => by
  obtain ⟨x, _, rfl⟩ := List.mem_map.mp hd; exact deedD_depth x
theorem end_lay : PyData.canLay0 (.str (Str.ofString "none left")) = true := by decide +kernel
theorem pair_lay (a b : List Deed) : (pairD a b).canLay0 = true := by
  simp only [pairD, PyData.canLay0, PyData.canLayAll0, lay_app, deeds_lay, Bool.true_and, Bool.and_true]
  exact end_lay
theorem pair_depth (a b : List Deed) : (pairD a b).depth ≤ 60 := by
  have h1 := deeds_depth a
  have h2 := deeds_depth b
  simp only [pairD, PyData.depth, PyData.depthAll, depth_app]
  lia

/-! the log as data -/
theorem ok_app {a b : Str} (h1 : PyData.strOk a = true) (h2 : PyData.strOk b = true) : PyData.strOk (a ++ b) = true := by
  show ((a.cps ++ b.cps).all (· < 0x110000)) = true
  rw [Array.all_append]
  exact Bool.and_eq_true_iff.mpr ⟨h1, h2⟩
theorem entry_lay {e : Deed × Str} (h : PyData.strOk e.2 = true) : (entryD e).canLay0 = true := by
  simp only [entryD, PyData.canLay0, PyData.canLayAll0, h, Bool.and_self]
theorem entry_depth (e : Deed × Str) : (entryD e).depth ≤ 1 := Nat.le_refl 1
def logD (l : List (Deed × Str)) : PyData := .list (l.map entryD ++ [.str (Str.ofString "none left")])
theorem logD_lay {l : List (Deed × Str)} (h : ∀ e ∈ l, PyData.strOk e.2 = true) : (logD l).canLay0 = true := by
  have h1 : PyData.canLayAll0 (l.map entryD) = true := lay_all _ fun d hd => by
    obtain ⟨x, hx, rfl⟩ := List.mem_map.mp hd; exact entry_lay (h x hx)
  simp only [logD, PyData.canLay0, PyData.canLayAll0, lay_app, h1, Bool.true_and, Bool.and_true]
  exact end_lay
theorem logD_depth (l : List (Deed × Str)) : (logD l).depth ≤ 60 := by
  have h1 : PyData.depthAll (l.map entryD) ≤ 1 := depth_all _ fun d hd => by
    obtain ⟨x, hx, rfl⟩ := List.mem_map.mp hd; exact entry_depth x
  simp only [logD, PyData.depth, PyData.depthAll, depth_app]
  lia

/-! the deeds of a script -/
theorem deedsOf_len (ns : List Int) : 5 ≤ (deedsOf ns).length ∧ (deedsOf ns).length ≤ 13 := by
  unfold deedsOf xsOf; simp; lia
theorem deedsOf_get {ns : List Int} {d : Deed} (h : d ∈ deedsOf ns) : ∃ (i : Nat) (x : Int), d = mkDeed i x := by
  unfold deedsOf at h
  obtain ⟨i, hi, e⟩ := List.mem_mapIdx.mp h
  exact ⟨i, _, e.symm⟩
theorem deedsOf_good {ns : List Int} {d : Deed} (h : d ∈ deedsOf ns) : GoodD d ∧ 0 ≤ d.span ∧ d.stage = 0 := by
  obtain ⟨i, x, rfl⟩ := deedsOf_get h
  unfold GoodD mkDeed
  dsimp only
  refine ⟨⟨?_, ?_, ?_⟩, ?_, rfl⟩ <;> lia
theorem deedsOf_places (ns : List Int) : (deedsOf ns).Pairwise (fun a b => a.place < b.place) := by
  unfold deedsOf
  rw [List.pairwise_iff_getElem]
  intro i j hi hj hij
  simp only [List.getElem_mapIdx, mkDeed]
  lia
theorem deedsOf_nodup (ns : List Int) : (deedsOf ns ++ backsOf (deedsOf ns)).Nodup := by
  have hp := deedsOf_places ns
  have h1 : (deedsOf ns).Nodup := hp.imp fun h e => by subst e; lia
  have h2 : (backsOf (deedsOf ns)).Nodup := by
    unfold backsOf
    refine List.Pairwise.map _ (R := fun a b => a.place < b.place) (fun a b h e => ?_) (hp.filter _)
    have := congrArg Deed.place e
    simp only [back] at this; lia
  refine List.nodup_append.mpr ⟨h1, h2, fun a ha b hb e => ?_⟩
  subst e
  have hs := (deedsOf_good ha).2.2
  unfold backsOf at hb
  obtain ⟨x, _, rfl⟩ := List.mem_map.mp hb
  simp [back] at hs
theorem back_good {d : Deed} (h : GoodD d) : GoodD (back d) := h
theorem all_good {ns : List Int} {d : Deed} (h : d ∈ deedsOf ns ++ backsOf (deedsOf ns)) : GoodD d := by
  rcases List.mem_append.mp h with h | h
  · exact (deedsOf_good h).1
  · unfold backsOf at h
    obtain ⟨x, hx, rfl⟩ := List.mem_map.mp h
    exact back_good (deedsOf_good (List.mem_filter.mp hx).1).1
theorem log_told {ds : List Deed} (hg : ∀ d ∈ ds, GoodD d) : logOf ds = toldOf ds := by
  unfold logOf toldOf
  apply List.ext_getElem
  · simp
  · intro i h1 h2
    simp only [List.getElem_mapIdx]
    have hgg : ∀ d ∈ ds.take (i + 1), GoodD d := fun d hd => hg d (List.mem_of_mem_take hd)
    rw [told_eq _ _ hgg, text_eq (modeOf_lt _ _ hgg)]
end Mine
namespace Mine
local macro_rules | `(tactic| walk_at "lk") => `(tactic| first | with_reducible exact upd_eq | (refine upd_ne (by rfl) ?_; walk_at "lk") | with_reducible assumption | rfl)
local macro_rules | `(tactic| walk_at "nm") => `(tactic| refine nmL (by with_reducible assumption) (by walk_at "lk") ?_)
theorem item_ok {x : Str} (h : PyData.strOk x = true) (i : Int) : PyData.strOk (Txt.item x i) = true := by
  have key : ∀ c, Txt.charAt x i = some c → c < 0x110000 := by
    intro c hc
    unfold Txt.charAt at hc
    cases e : seqIndex? i x.length with
    | none => rw [e] at hc; cases hc
    | some j =>
      rw [e] at hc
      have hj : x.cps[j]? = some c := hc
      obtain ⟨hlt, he⟩ := Array.getElem?_eq_some_iff.mp hj
      have := Array.all_eq_true.mp h j hlt
      rw [he] at this
      exact of_decide_eq_true this
  have e : ((Txt.charAt x i).getD 0) < 0x110000 := by
    cases e : Txt.charAt x i with
    | none => decide
    | some c => exact key c e
  show ((#[(Txt.charAt x i).getD 0] : Array Nat).all (· < 0x110000)) = true
  simp only [List.all_toArray, List.all_cons, List.all_nil, Bool.and_true, decide_eq_true_eq]
  exact e
theorem textGo_ok (n : Nat) : ∀ p, PyData.strOk (textGo n p) = true
  | 0 => item_ok (by decide +kernel) _
  | p + 1 => by
    have ht : PyData.strOk (trip p) = true := by unfold trip; split <;> decide +kernel
    exact ok_app (ok_app (textGo_ok n p) (ok_app (item_ok (by decide +kernel) _) (item_ok (by decide +kernel) _))) (item_ok ht _)
theorem told_ok {ds : List Deed} : ∀ e ∈ toldOf ds, PyData.strOk e.2 = true := by
  intro e he
  obtain ⟨i, hi, rfl⟩ := List.mem_mapIdx.mp he
  exact textGo_ok _ 3

section
variable {prog : Program} {w : World} {A : Around} {E : Value → Shared → Prop} {h : Heap} {gs : Array GenState} {dr : Drawn} {t : Nat} {os : OsState} {base : Heap} {L a : Addr} {m : Str → Option Value} {name : Str} {scope : Scope} {cd : Value}
theorem stoS {x : Str} {v : Value} {Q : Unit → Shared → Prop} (F : Fr base L h m) (q : ∀ h', Fr base L h' (upd m x v) → Heap.ExtBut L h h' → Q () ⟨h', gs, dr, t + 1, os⟩)
    (hk : scope.kind = .function := by rfl) (hl : (envOf name scope L a cd).kindOf x = some .local := by rfl) :
    wpAny (model prog w) A (storeName (envOf name scope L a cd) x v) Q E ⟨h, gs, dr, t, os⟩ :=
  wpAny_storeName_local (s := ⟨h, gs, dr, t, os⟩) hl F.ns (fun h' hn hs => q h' (F.set hn hs) hs.extBut)
    (by show (scope.kind == .class || (scope.kind == .module && L != mainGlobals)) = false; rw [hk]; rfl)
theorem a_tupS {elts : List Expr} {k : Nat} {pos : Pos} {T : Addr} {vs : List Value} {Q : Unit → Shared → Prop} {j : Nat} {env : Env} (F : Fr base L h m) (ht : IsTup h T vs.toArray) (r : Room A j)
    (hn : (assignEach elts env).length = vs.length) (hstar : (assignEach elts env).findIdx? (·.1) = none)
    (q : ∀ h', Fr base L h' m → Keep h h' → wpAny (model prog w) A (assignInOrder ((assignEach elts env).map (·.2)) vs) Q E ⟨h', gs, dr, t, os⟩) :
    wpAny (model prog w) A (assign (.Tuple elts k pos) env (.ref T)) Q E ⟨h, gs, dr, t, os⟩ :=
  assign_Tuple_tuple (s := ⟨h, gs, dr, t, os⟩) r.handled ht (by simpa using hn) hstar fun h' he => by
    have k : Keep h h' := fun b o e => he b o (Nat.ne_of_lt (Heap.lt_size e)) e
    simpa using q h' (kept_fr F k) k

theorem c_course {way : Int} {tw : Tok} {Q : Value → Shared → Prop} {k : Nat} {D : Addr} {ds : List AD} {p : Program} {loose : List Str} {mean : ExcName → Option Value} {mg mb : Str → Option Value}
    (hway : way = 0 ∨ way = 1 ∨ way = 2) (F : Fr base L h m) (K0 : Below A base [] base) (XB : (KK w).In base) (TB : Top p loose mean mg mb base) (hD : h.IsList D (refs ds).toArray) (hds : DeedsAt h ds) (hlen : 5 ≤ ds.length) (hlen2 : ds.length ≤ 13)
    (r : Room (A.deeper (envOf name scope L a cd)) (k + 5)) (hgood : ∀ x ∈ ds.map (·.2), x.kind = 2 → 0 ≤ x.span ∧ x.stage = 0)
    (hQ : ∀ h' tk T tl cl tps co, Fr base L h' m → Heap.ExtBut L h h' → IsTup h' T [Value.ref tl, .ref cl].toArray → Crs h' tl cl tps co → tps.map (·.2) = (List.range (ds.length - ds.length / 2)).map (fun i => topAt (ds.map (·.2)) (ds.length / 2 + i)) →
      (co.map (·.2)).Perm (ds.map (·.2) ++ backsOf (ds.map (·.2))) → Sorted (co.map (·.2)) → Q (.ref T) ⟨h', gs, dr, tk, os⟩)
    (hkind : scope.kind = .function := by rfl) :
    wpAny (model prog w) (A.deeper (envOf name scope L a cd)) (call (.ref 138) [.ref D, .int way tw]) Q E ⟨h, gs, dr, t, os⟩ := by
  have KB := K0.push (name := name) (a := a) (cd := cd) F hkind
  have hfs : ∀ b, b ∈ [envOf name scope L a cd].filterMap (·.frame) → b = L := fun b hb => by
    rcases kts_mem hb with z | z
    · exact z
    · simp at z
  refine course_call hway KB XB TB ?dd (fun _ _ e => e) (Nat.le_refl _) hD hds hlen hlen2 r hgood fun g' h' tk T tl cl tps co led ts n1 n2 TT hk' hsz hled hT htl hcl hdt hdc e1 e2 e3 => ?_
  case dd =>
    intro b hb
    rw [hfs b hb]
    obtain ⟨oL, es, ep, hL, hdL, _⟩ := F.ns
    exact ⟨oL, es, ep, hL, hdL⟩
  have st : Heap.ExtBut L h h' := fun b o hne e => hk' _ _ (TT.other b o e fun hm => hne (hfs b hm))
  have F' : Fr base L h' m := by
    obtain ⟨oL, es, ep, hL, rr⟩ := F.ns
    obtain ⟨sl, hs⟩ := TT.up hL
    refine ⟨⟨_, es, ep, hk' _ _ hs, rr⟩, fun b o e => st b o ?_ (F.keep b o e), F.above⟩
    rintro rfl
    exact absurd (Nat.lt_of_lt_of_le (Heap.lt_size e) F.above) (Nat.lt_irrefl _)
  have hdin : ∀ {qs : List AD}, (∀ q ∈ qs, DIn g' led q) → DeedsAt h' qs := fun hq p hp => by
    rcases hq p hp with x | ⟨vals, hm, hi⟩
    · exact x.keeps hk'
    · exact ⟨vals, ⟨_, (hled _ hm).1, rfl, _, rfl⟩, hi⟩
  exact hQ h' tk T tl cl tps co F' st ⟨_, (hled _ hT).1, rfl, _, rfl⟩ ⟨⟨_, (hled _ htl).1, rfl, _, rfl⟩, ⟨ts, _, (hled _ hcl).1, rfl, _, rfl⟩, hdin hdt, hdin hdc⟩ e1 e2 e3
end
end Mine
namespace Mine
local macro_rules | `(tactic| walk_at "lk") => `(tactic| first | with_reducible exact upd_eq | (refine upd_ne (by rfl) ?_; walk_at "lk") | with_reducible assumption | rfl)
local macro_rules | `(tactic| walk_at "nm") => `(tactic| refine nmL (by with_reducible assumption) (by walk_at "lk") ?_)
theorem room_caller : Room callerA 8 := ⟨rfl, by decide +kernel, by decide +kernel⟩
theorem law_ok {s₀ s₁ : Shared} {L : Addr} {h' : Heap} {m : Str → Option Value} {tk : Nat} {args : List WData} (F : Fr s₁.heap L h' m) (hg : s₁.gens = #[]) :
    GoodW Challenge.rw_nq0092_01.row.claim (classAt s₀.heap) (ExcName.means s₀.heap) args s₁ (.ok (.ret (.bool true))) ⟨h', s₁.gens, s₁.drawn, tk, s₁.os⟩ :=
  goodW_bool (s' := ⟨h', s₁.gens, s₁.drawn, tk, s₁.os⟩) F hg (raisesW_false (by intro ct h; cases h)) (postW_of (X := true == true) (by wrow_shape) (w_eq_bool (w_res rfl) w_lit) rfl)
section
variable {prog : Program} {w : World} {A : Around} {E : Value → Shared → Prop} {h : Heap} {gs : Array GenState} {dr : Drawn} {t n : Nat} {os : OsState} {a b : Value} {d : PyData} {as bs : List Addr}
theorem units_ok (r : Room A n) (hd : d.depth ≤ 60) : A.units + min d.depth d.depth < cLine := by have := r.u64; lia
theorem ne_same {Q : Bool → Shared → Prop} (ra : Reads h a d as) (rb : Reads h b d bs) (hl : d.canLay0 = true) (hd : d.depth ≤ 60) (r : Room A n) (q : Q false ⟨h, gs, dr, t, os⟩) :
    wpAny (model prog w) A (compareOp .NotEq a b) (fun c s₃ => wpAny (model prog w) A (truthy c) Q E s₃) E ⟨h, gs, dr, t, os⟩ :=
  SeqAt.compareNe_reads (s := ⟨h, gs, dr, t, os⟩) ra rb hl hl (units_ok r hd) (by rw [SeqAt.eqv_refl d hl]; exact wpAny_truthy_bool q)
theorem eq_same {Q : Value → Shared → Prop} (ra : Reads h a d as) (rb : Reads h b d bs) (hl : d.canLay0 = true) (hd : d.depth ≤ 60) (r : Room A n) (q : Q (.bool true) ⟨h, gs, dr, t, os⟩) :
    wpAny (model prog w) A (compareOp .Eq a b) Q E ⟨h, gs, dr, t, os⟩ :=
  SeqAt.compareEq_reads (s := ⟨h, gs, dr, t, os⟩) ra rb hl hl (units_ok r hd) (by rw [SeqAt.eqv_refl d hl]; exact q)
theorem ite_ff {p q : Prop} (h : q) : if false = true then p else q := by simpa using h
end
inductive LawQ (s₁ : Shared) (L : Addr) (f : Flow) (s' : Shared) : Prop
  | mk (h' : Heap) (tk : Nat) (m : Str → Option Value) : f = .ret (.bool true) → s' = ⟨h', s₁.gens, s₁.drawn, tk, s₁.os⟩ → Fr s₁.heap L h' m → LawQ s₁ L f s'
theorem law_holds : PySem.Challenge.rw_nq0092_01.Holds := hd (by
  k_go0
  dsimp only
  rename_i w s₀ s₁ mg mb G Y fa o pm doc kV ho hg KX X V GL T B TE TW x9 x8 M x7 x6 hcd ns hs hlay0 hL1 hr1 hl2 x4 x3 S vs x hS ra w1 r0 hI hr hc1 hc2 K0 hDf h₁ F N0
  have TB := T
  have hn : ns.length ≤ 63 := by lia
  clear G Y V GL B TE TW M hcd hs hlay0 hL1 hr1 hl2 ra w1 r0 hr hDf K0 N0 ho hc1 hc2 X
  have K0 := below_caller s₁.heap
  have G : Gd w s₁.heap := ⟨KX, _, _, _, _, topRead_of TB⟩
  refine wpAny_mono (Q := LawQ s₁ s₁.heap.objs.size) (E := fun _ _ => False) ?_ (fun f s' hq => by
    obtain ⟨h', tk, m, rfl, rfl, F⟩ := hq
    exact law_ok F hg) fun _ _ e => e.elim
  generalize s₁.heap.objs.size = L at F ⊢
  -- deeds = _law_deeds(script)
  refine s_asg (Call_ (nmG F G (v := .ref 124) rfl (c_def rfl (wpAny_items_cons ?_))))
  walk_at "nm"
  refine wpAny_items_nil ⟨G.K.keeps F.keep, deeds_call (k := 0) (G.keeps F.keep) (let ⟨o, ho, z⟩ := hS; ⟨o, F.keep _ _ ho, z⟩) hI hn (room_caller.deeper.less (by decide)) fun D ps tups n h₂ tk hk hsz hled hDi hpe => ?_⟩
  have hD : h₂.IsList D (refs ps).toArray := ⟨_, (hled _ (.head _)).1, rfl, _, rfl⟩
  have hds : DeedsAt h₂ ps := fun p hp => by
    rcases hDi p hp with x | ⟨vals, hm, hi⟩
    · exact x.keeps hk
    · exact ⟨vals, ⟨_, (hled _ (.tail _ hm)).1, rfl, _, rfl⟩, hi⟩
  have F2 := kept_fr F hk
  have hl := deedsOf_len ns
  have hpl : ps.length = (deedsOf ns).length := by rw [← hpe]; simp
  have hgood : ∀ x ∈ ps.map (·.2), x.kind = 2 → 0 ≤ x.span ∧ x.stage = 0 := fun x hx _ => by rw [hpe] at hx; exact (deedsOf_good hx).2
  refine stoS F2 fun h₃ F3 st => ?_
  have hD := list_stay hD F2 st
  have hds := deeds_stay hds F2 st
  clear hled hDi hk F F2 st hS hI
  -- tops, course = _law_course(deeds, 0)
  refine s_tup (Call_ (nmG F3 G (v := .ref 138) rfl (c_def rfl (wpAny_items_cons ?_))))
  walk_at "nm"
  refine wpAny_items_cons (e_int (wpAny_items_nil ⟨G.K.keeps F3.keep, c_course (k := 0) (.inl rfl) F3 K0 KX TB hD hds (by lia) (by lia) (room_caller.deeper.less (by decide)) hgood fun h₄ tk T tl cl tps co F4 st hT hC e1 e2 e3 => ?_⟩))
  have hD := list_stay hD F3 st
  have hds := deeds_stay hds F3 st
  refine a_tupS F4 hT room_caller.deeper rfl rfl fun h₅ F5 k5 => ?_
  have hD := list_stay hD F4 (ext_keep k5)
  have hds := deeds_stay hds F4 (ext_keep k5)
  have hC := hC.stay F4 (ext_keep k5)
  refine assignInOrder_cons (wpAny_assign_Name (stoS F5 fun h₆ F6 st => ?_))
  have hD := list_stay hD F5 st
  have hds := deeds_stay hds F5 st
  have hC := hC.stay F5 st
  refine assignInOrder_cons (wpAny_assign_Name (stoS F6 fun h₇ F7 st => ?_))
  have hD := list_stay hD F6 st
  have hds := deeds_stay hds F6 st
  have hC := hC.stay F6 st
  refine assignInOrder_nil ?_
  -- the two other ways
  refine s_if (wpAny_isTrue_BoolOp (wpAny_allTrue_Or_cons (wpAny_isTrue_Compare1 ?_)))
  refine Call_ (nmG F7 G (v := .ref 138) rfl (c_def rfl (wpAny_items_cons ?_)))
  walk_at "nm"
  refine wpAny_items_cons (e_int (wpAny_items_nil ⟨G.K.keeps F7.keep, c_course (k := 0) (.inr (.inl rfl)) F7 K0 KX TB hD hds (by lia) (by lia) (room_caller.deeper.less (by decide)) hgood fun h₈ tk T1 tl1 cl1 tps1 co1 F8 st hT1 hC1 f1 f2 f3 => ?_⟩))
  have hD := list_stay hD F7 st
  have hds := deeds_stay hds F7 st
  have hC := hC.stay F7 st
  refine Tuple_ (wpAny_items_cons ?_)
  walk_at "nm"
  refine wpAny_items_cons ?_
  walk_at "nm"
  refine wpAny_items_nil (n_tup F8 News.nil (by simp) fun U h₉ F9 N9 _ k9 _ => ?_)
  obtain ⟨as1, r1⟩ := hC1.reads hT1
  have hD := list_stay hD F8 (ext_keep k9)
  have hds := deeds_stay hds F8 (ext_keep k9)
  have hC := hC.stay F8 (ext_keep k9)
  obtain ⟨as2, r2⟩ := hC.reads (T := U) ⟨_, (N9 _ (.head _)).1, rfl, _, rfl⟩
  rw [f1.trans e1.symm, sorted_unique (f2.trans e2.symm) f3 e3] at r1
  refine ne_same (PyProof.Rows.Reads.keeps k9 r1) r2 (pair_lay _ _) (pair_depth _ _) room_caller.deeper (ite_ff (wpAny_allTrue_Or_cons (wpAny_isTrue_Compare1 ?_)))
  clear r1 r2 f1 f2 f3 hC1 hT1 N9
  refine Call_ (nmG F9 G (v := .ref 138) rfl (c_def rfl (wpAny_items_cons ?_)))
  walk_at "nm"
  refine wpAny_items_cons (e_int (wpAny_items_nil ⟨G.K.keeps F9.keep, c_course (k := 0) (.inr (.inr rfl)) F9 K0 KX TB hD hds (by lia) (by lia) (room_caller.deeper.less (by decide)) hgood fun h₁₀ tk T1 tl1 cl1 tps1 co1 F10 st hT1 hC1 f1 f2 f3 => ?_⟩))
  have hD := list_stay hD F9 st
  have hds := deeds_stay hds F9 st
  have hC := hC.stay F9 st
  refine Tuple_ (wpAny_items_cons ?_)
  walk_at "nm"
  refine wpAny_items_cons ?_
  walk_at "nm"
  refine wpAny_items_nil (n_tup F10 News.nil (by simp) fun U h₁₁ F11 N11 _ k11 _ => ?_)
  obtain ⟨as1, r1⟩ := hC1.reads hT1
  have hD := list_stay hD F10 (ext_keep k11)
  have hds := deeds_stay hds F10 (ext_keep k11)
  have hC := hC.stay F10 (ext_keep k11)
  obtain ⟨as2, r2⟩ := hC.reads (T := U) ⟨_, (N11 _ (.head _)).1, rfl, _, rfl⟩
  rw [f1.trans e1.symm, sorted_unique (f2.trans e2.symm) f3 e3] at r1
  refine ne_same (PyProof.Rows.Reads.keeps k11 r1) r2 (pair_lay _ _) (pair_depth _ _) room_caller.deeper (ite_ff (wpAny_allTrue_Or_nil (ite_ff (s_nil (then_next ?_)))))
  clear r1 r2 f1 f2 f3 hC1 hT1 N11
  -- return _law_log(course) == _law_told(deeds)
  have hco : ∀ d ∈ co.map (·.2), GoodD d := fun d hd => by
    have := e2.mem_iff.mp hd
    rw [hpe] at this
    exact all_good this
  have hcl : co.length ≤ 100 := by
    have h1 := e2.length_eq
    have h2 : (backsOf (ps.map (·.2))).length ≤ ps.length := by
      unfold backsOf
      rw [List.length_map]
      exact Nat.le_trans (List.length_filter_le _ _) (by simp)
    simp only [List.length_map, List.length_append] at h1
    lia
  obtain ⟨-, ⟨ts, hcol⟩, -, hcod⟩ := hC
  refine s_ret (wpAny_Compare1 ?_)
  refine Call_ (nmG F11 G (v := .ref 145) rfl (c_def rfl (wpAny_items_cons ?_)))
  walk_at "nm"
  refine wpAny_items_nil ⟨G.K.keeps F11.keep, log_call (k := 0) (G.keeps F11.keep) hcol hcod (fun p hp => hco _ (List.mem_map_of_mem hp)) hcl (room_caller.deeper.less (by decide)) fun R1 h₁₂ tk as k12 _ r1 => ?_⟩
  have F12 := kept_fr F11 k12
  have hD := list_stay hD F11 (ext_keep k12)
  have hds := deeds_stay hds F11 (ext_keep k12)
  refine Call_ (nmG F12 G (v := .ref 164) rfl (c_def rfl (wpAny_items_cons ?_)))
  walk_at "nm"
  refine wpAny_items_nil ⟨G.K.keeps F12.keep, told_call (k := 0) (G.keeps F12.keep) hD hds (fun p hp => (deedsOf_good (ns := ns) (by rw [← hpe]; exact List.mem_map_of_mem hp)).1) (by rw [hpe]; exact deedsOf_nodup ns) (by lia) (by lia) (room_caller.deeper.less (by decide)) fun R2 ev h₁₃ tk bs k13 _ hev hsev r2 => ?_⟩
  have hee : ev = co.map (·.2) := sorted_unique (hev.trans e2.symm) hsev e3
  subst hee
  rw [log_told hco] at r1
  have q1 : Reads h₁₃ (.ref R1) (logD (toldOf (co.map (·.2)))) as := PyProof.Rows.Reads.keeps k13 r1
  have q2 : Reads h₁₃ (.ref R2) (logD (toldOf (co.map (·.2)))) bs := r2
  have q3 : (logD (toldOf (co.map (·.2)))).canLay0 = true := logD_lay told_ok
  have q4 := logD_depth (toldOf (co.map (·.2)))
  generalize logD (toldOf (co.map (·.2))) = dd at q1 q2 q3 q4
  refine eq_same q1 q2 q3 q4 room_caller.deeper ?_
  exact ⟨h₁₃, _, _, rfl, rfl, kept_fr F12 k13⟩)
end Mine
theorem PySem.Challenge.cw_nq0092_01_holds : PySem.Challenge.rw_nq0092_01.Holds :=
  Mine.law_holds
