import PyProof.Rows.All
import Wide.All
import OpenK.AllK
import Wide.FinOn
import PySem.Challenge.RW_ph0074_01
open PySem PySem.W PyProof.Rows PySem.Calls
set_option Elab.async false
set_option maxRecDepth 100000
set_option maxHeartbeats 8000000
set_option linter.all false
set_option compiler.extract_closed false
namespace Mine
section
open_top hd for PySem.Challenge.rw_ph0074_01
end
end Mine
namespace Mine
section
theorem reset_MBase : True := by
  first | (walk1; done) | skip
  w_top off
  exact True.intro
def Hold (P : Prop) : Prop := P
theorem hold_ {P : Prop} (h : Hold P) : P := h

def Sub (h h' : Heap) : Prop := ∀ b o, h.get? b = some o → h'.get? b = some o
theorem Sub.trans {a b c : Heap} (h : Sub a b) (k : Sub b c) : Sub a c := fun x o e => k x o (h x o e)
theorem Sub.none {a b : Heap} (h : Sub a b) {x : Addr} (e : b.get? x = none) : a.get? x = none := by
  cases q : a.get? x with
  | none => rfl
  | some o => rw [h x o q] at e; cases e

/-- what a def does, told of its call: nothing that stands is changed -/
def Spec (f : Addr) (dp un : Nat) (w : World) (vs : List Value) (Pre : Heap → Prop) (Post : Heap → Heap → Value → Prop) : Prop :=
  ∀ (A : Around) (env : Env) (outer : List Env) (A₀ : Around) (base h₀ : Heap) (L : Addr) (m : Str → Option Value) (mean : ExcName → Option Value) (mg mb : Str → Option Value) (s : Shared) (Q E : Value → Shared → Prop),
    A.handled = none → A.frames = some (env :: outer) → env.frame = some L → env.scope.kind = .function → A.depth ≤ dp → A.units ≤ un →
    Below A₀ base outer h₀ → Fr h₀ L s.heap m → (Mine.hd.heap_39 w.params).In h₀ → Top Mine.hd.view_39 (looseW Mine.hd.view_39 [Str.ofString "EXACT_TOKEN_TYPES"]) mean mg mb h₀ → Pre s.heap →
    (∀ (r : Value) (h' : Heap) (tk' : Nat), Sub s.heap h' → Post s.heap h' r → Q r { s with heap := h', toks := tk' }) →
    wpAny (model PySem.Challenge.rw_ph0074_01.row.prog w) A (call (.ref f) vs) Q E s

theorem wpAny_le {α : Type} {M : Model} {A A' : Around} {t : Sem α} {Q : α → Shared → Prop} {E : Value → Shared → Prop} {s : Shared} (hh : A'.handled = A.handled) (hd : A.depth ≤ A'.depth) (hf : A'.frames = A.frames) (hg : A'.guards = A.guards) (hu : A.units ≤ A'.units)
    (h : wpAny M A' t Q E s) : wpAny M A t Q E s := fun Γ p hΓ => h Γ p ⟨hΓ.1.trans hh.symm, Nat.le_trans hΓ.2.1 hd, fun l hl => hΓ.2.2.1 l (hf ▸ hl), fun g hg' => hΓ.2.2.2.1 g (hg ▸ hg'), Nat.le_trans hΓ.2.2.2.2 hu⟩

/-- a def's end -/
def FinQ (g : Heap) (L : Addr) (s : Shared) (Post : Heap → Heap → Value → Prop) (fl : Flow) (s' : Shared) : Prop :=
  ∃ h' tk' m', s' = { s with heap := h', toks := tk' } ∧ Fr g L h' m' ∧ Post g h' (match fl with | .ret v => v | _ => .none)
theorem FinQ.intro {g h' : Heap} {L : Addr} {s : Shared} {Post : Heap → Heap → Value → Prop} {v : Value} {tk' : Nat} {m' : Str → Option Value} (F : Fr g L h' m') (hp : Post g h' v) : FinQ g L s Post (.ret v) { s with heap := h', toks := tk' } := ⟨h', tk', m', rfl, F, hp⟩

abbrev AX (dp un : Nat) (gd : Option (List Code)) (env : Env) (outer : List Env) : Around := { handled := none, depth := dp, frames := some (env :: outer), guards := gd, units := un }

theorem spec_enter {f : Addr} {dp un : Nat} {w : World} {vs : List Value} {Pre : Heap → Prop} {Post : Heap → Heap → Value → Prop} {name qual : Str} {params : Arguments} {body : List Stmt} {scope : Scope} {dV kV doc pm cdv ct oc : Value} {an od : Option Addr} {osl : Array (Option Value)} {binds : List (Str × Value)}
    (ho : (Mine.hd.heap_39 w.params).lookup f = some ⟨oc, od, .func (fnOf name qual params body scope dV kV doc pm an cdv ct), osl⟩) (hcd : codeIn (Mine.hd.heap_39 w.params) cdv qual = true) (hroom : dp < recursionLimit)
    (hbind : ∀ s, BindsTo s (fnOf name qual params body scope dV kV doc pm an cdv ct) ⟨vs, []⟩ binds) (hloc : ∀ y ∈ binds, scope.names.lookup y.1 = some .local)
    (hco : scope.isCoroutine = false) (hgen : scope.isGenerator = false) (hk : scope.kind = .function) (hcell : ∀ x ∈ scope.names, x.2 ≠ .cell)
    (pre : ∀ h h', Sub h h' → Pre h → Pre h') (post : ∀ a b h v, Sub a b → Post b h v → Post a h v)
    (h : ∀ (gd : Option (List Code)) (env : Env) (outer : List Env) (base g : Heap) (L' : Addr) (h₁ : Heap) (mean : ExcName → Option Value) (mg mb : Str → Option Value) (s : Shared) (tk : Nat), Fr g L' h₁ (fun y => binds.reverse.lookup y) → News g L' h₁ [] → Below (AX dp un gd env outer) base (env :: outer) g →
      (Mine.hd.heap_39 w.params).In g → Top Mine.hd.view_39 (looseW Mine.hd.view_39 [Str.ofString "EXACT_TOKEN_TYPES"]) mean mg mb g → Pre g →
      wpAny (model PySem.Challenge.rw_ph0074_01.row.prog w) ((AX dp un gd env outer).deeper (envOf qual scope L' f cdv)) (execs body (envOf qual scope L' f cdv)) (FinQ g L' s Post) (fun _ _ => False) { s with heap := h₁, toks := tk }) :
    Spec f dp un w vs Pre Post := by
  intro A env outer A₀ base h₀ L m mean mg mb s Q E hh hA hf hke hd hu B F X T hpre hret
  refine wpAny_le (A' := AX dp un A.guards env outer) hh.symm hd hA.symm rfl hu ?_
  refine wpAny_call ?_
  refine code_defG (news := []) B F X News.nil T rfl hf hke ho hcd hroom (hbind s) hloc ?_ hco hgen hk hcell
  intro g L' h₁ FG F' N' B' X' T' kG
  have sub : Sub s.heap g := fun b o e => kG b o e (by simp)
  refine wpAny_mono (h A.guards env outer base g L' h₁ mean mg mb s _ F' N' B' X' T' (pre _ _ sub hpre)) (fun fl s' hq => ?_) (fun _ _ x => x.elim)
  obtain ⟨h', tk', m', rfl, F2, hp⟩ := hq
  exact ⟨L', m', [], F2, News.nil, fun _ _ => hret _ _ _ (fun b o e => F2.keep b o (sub b o e)) (post _ _ _ _ sub hp)⟩

theorem spec_enterC {f : Addr} {dp un : Nat} {w : World} {vs : List Value} {Pre : Heap → Prop} {Post : Heap → Heap → Value → Prop} {name qual : Str} {params : Arguments} {body : List Stmt} {scope : Scope} {dV kV doc pm cdv ct oc : Value} {an od : Option Addr} {osl : Array (Option Value)} {binds : List (Str × Value)}
    (ho : (Mine.hd.heap_39 w.params).lookup f = some ⟨oc, od, .func (fnOf name qual params body scope dV kV doc pm an cdv ct), osl⟩) (hcd : codeIn (Mine.hd.heap_39 w.params) cdv qual = true) (hroom : dp < recursionLimit)
    (hbind : bindArgs (fnOf name qual params body scope dV kV doc pm an cdv ct) ⟨vs, []⟩ = pure binds) (hkind : (binds.all fun y => scope.names.lookup y.1 == some .local || scope.names.lookup y.1 == some .cell) = true)
    (hnd : ((cellsFrom 0 scope.names []).map (·.1)).Nodup)
    (hco : scope.isCoroutine = false) (hgen : scope.isGenerator = false) (hk : scope.kind = .function)
    (pre : ∀ h h', Sub h h' → Pre h → Pre h')
    (h : ∀ (gd : Option (List Code)) (env : Env) (outer : List Env) (base g : Heap) (L' : Addr) (h₁ : Heap) (mean : ExcName → Option Value) (mg mb : Str → Option Value) (s : Shared) (tk : Nat) (cells : List (Addr × Obj)),
      Fr g L' h₁ (bindL (envOfC qual scope L' f cdv).kindOf binds fun _ => none) → News g L' h₁ cells → CellsAre (bindC (envOfC qual scope L' f cdv).kindOf binds fun _ => none) (cellsFrom (L' + 1) scope.names []) cells → Below (AX dp un gd env outer) base (env :: outer) g →
      (Mine.hd.heap_39 w.params).In g → Top Mine.hd.view_39 (looseW Mine.hd.view_39 [Str.ofString "EXACT_TOKEN_TYPES"]) mean mg mb g → Pre g →
      wpAny (model PySem.Challenge.rw_ph0074_01.row.prog w) ((AX dp un gd env outer).deeper (envOfC qual scope L' f cdv)) (execs body (envOfC qual scope L' f cdv)) (FinQ g L' s Post) (fun _ _ => False) { s with heap := h₁, toks := tk }) :
    Spec f dp un w vs Pre Post := by
  intro A env outer A₀ base h₀ L m mean mg mb s Q E hh hA hf hke hd hu B F X T hpre hret
  refine wpAny_le (A' := AX dp un A.guards env outer) hh.symm hd hA.symm rfl hu ?_
  refine wpAny_call ?_
  refine codeAny_call_cells (fd := fnOf name qual params body scope dV kV doc pm an cdv ct) hroom ((X.keeps F.keep) _ _ ho) rfl (T.nolimit.keeps F.keep) (codeRec_of (X.keeps F.keep) hcd) rfl hbind rfl (kindsX hkind _) ?_ hco hgen hk
  intro s₁ x
  obtain ⟨h₁, tk, rfl, _⟩ := x.done
  obtain ⟨cells, NC, Y⟩ := Cl.news (h₀ := s.heap) (Nat.le_refl _) fun n c hm => ⟨x.cell n c (lookup_of_mem_nodup (cellsFrom_names scope.names 0 (s.heap.objs.size + 1) [] [] rfl ▸ hnd) hm), x.above n c hm⟩
  have P := pushX B F hf hke
  refine wpAny_mono (h A.guards env outer base s.heap s.heap.objs.size h₁ mean mg mb s tk cells ⟨x.toInCall.ns, x.toInCall.keep, Nat.le_refl _⟩ NC Y ⟨rfl, P.stays, P.frames⟩ (X.keeps F.keep) (T.keeps F.keep) hpre) (fun fl s' hq => ?_) (fun _ _ x => x.elim)
  obtain ⟨h', tk', m', rfl, F2, hp⟩ := hq
  exact hret _ _ _ F2.keep hp

/-- the ledger grows by what a call hands back -/
theorem news_add {h₀ h h' : Heap} {L r : Addr} {m : Str → Option Value} {news : List (Addr × Obj)} {o : Obj} (F : Fr h₀ L h m) (N : News h₀ L h news) (k : Sub h h') (hr : h.get? r = none) (ho : h'.get? r = some o) : News h₀ L h' ((r, o) :: news) := by
  intro p hp
  rcases List.mem_cons.mp hp with rfl | hp
  · refine ⟨ho, ?_, ?_⟩
    · intro e
      obtain ⟨oL, _, _, hL, _⟩ := F.ns
      have : h.get? r = some oL := by rw [show r = L from e]; exact hL
      rw [hr] at this; cases this
    · cases q : h₀.get? r with
      | none => rfl
      | some o' => have := F.keep r o' q; rw [hr] at this; cases this
  · exact ⟨k _ _ (N p hp).1, (N p hp).2⟩
theorem news_ne {h₀ h : Heap} {L r : Addr} {news : List (Addr × Obj)} (N : News h₀ L h news) (hr : h.get? r = none) : ∀ p ∈ news, p.1 ≠ r := fun p hp e => by
  have := (N p hp).1; rw [e, hr] at this; cases this
/-- what a call asks of the place that it stands at -/
abbrev Pre6 (A : Around) (env : Env) (outer : List Env) (L : Addr) (d u : Nat) : Prop :=
  A.handled = none ∧ A.frames = some (env :: outer) ∧ env.frame = some L ∧ env.scope.kind = .function ∧ A.depth ≤ d ∧ A.units ≤ u
theorem pre6 {A : Around} {env : Env} {outer : List Env} {L : Addr} {d u : Nat} (a : A.handled = none) (b : A.frames = some (env :: outer)) (c : env.frame = some L) (k : env.scope.kind = .function)
    (e : Nat.ble A.depth d = true) (f : Nat.ble A.units u = true) : Pre6 A env outer L d u := ⟨a, b, c, k, Nat.le_of_ble_eq_true e, Nat.le_of_ble_eq_true f⟩
/-- what a call asks of the facts that the walk carries -/
abbrev Pre5 (A₀ : Around) (base : Heap) (outer : List Env) (h₀ : Heap) (L : Addr) (m : Str → Option Value) (mean : ExcName → Option Value) (mg mb : Str → Option Value) (h : Heap) (w : World) (news : List (Addr × Obj)) : Prop :=
  Below A₀ base outer h₀ ∧ Fr h₀ L h m ∧ (Mine.hd.heap_39 w.params).In h₀ ∧ Top Mine.hd.view_39 (looseW Mine.hd.view_39 [Str.ofString "EXACT_TOKEN_TYPES"]) mean mg mb h₀ ∧ News h₀ L h news
theorem lenS {α : Type} {l : List α} {n : Nat} (h : l.length = n + 1) : ∃ a r, l = a :: r := by
  cases l with
  | nil => cases h
  | cons a r => exact ⟨a, r, rfl⟩
theorem len2 {α : Type} {l : List α} (h : l.length = 2) : ∃ a b, l = [a, b] := by
  obtain ⟨a, l, rfl⟩ := lenS h
  obtain ⟨b, rfl⟩ := List.length_eq_one_iff.mp (Nat.succ.inj h)
  exact ⟨a, b, rfl⟩
theorem len3 {α : Type} {l : List α} (h : l.length = 3) : ∃ a b c, l = [a, b, c] := by
  obtain ⟨a, l, rfl⟩ := lenS h
  obtain ⟨b, c, rfl⟩ := len2 (Nat.succ.inj h)
  exact ⟨a, b, c, rfl⟩
end
end Mine
namespace Mine
section
theorem reset_MRules : True := by
  first | (walk1; done) | skip
  w_top off
  exact True.intro
def T (l : List Nat) : Str := ⟨l.toArray⟩
theorem T_len (l : List Nat) : (T l).length = l.length := by simp [T, Str.length]
theorem T_app (a b : List Nat) : T a ++ T b = T (a ++ b) := by
  show Str.append (T a) (T b) = _
  simp [Str.append, T]
theorem T_inj {a b : List Nat} (h : T a = T b) : a = b := by
  have := congrArg Str.cps h
  simpa [T] using this
theorem T_eq (a b : List Nat) : (T a = T b) ↔ a = b := ⟨T_inj, fun h => by rw [h]⟩
def pk {α : Type} (a b c : α) (k : Int) : α := if k = 0 then a else if k = 1 then b else c
def tokOf (c : Nat) : Int := if c = 43 then 14 else if c = 45 then 15 else if c = 42 then 16 else if c = 47 then 17 else if c = 124 then 18 else if c = 38 then 19 else if c = 60 then 20 else if c = 62 then 21 else 22
def Disc (c : Nat) : Prop := c ∈ [43, 45, 42, 47, 124, 38, 60, 62, 61]
section
variable {w : World} {A : Around} {E : Value → Shared → Prop} {s : Shared} {h₀ : Heap} {L l : Addr} {m : Str → Option Value} {news : List (Addr × Obj)} {Q : Value → Shared → Prop}
theorem item3_K {prog : Program} {value slice : PySem.Expr} {a b c x : List Nat} {ta tb tc : Tok} {k : Int} {u : Tok} (F : Fr h₀ L s.heap m) (hl : h₀.IsList l #[.str (T a) ta, .str (T b) tb, .str (T c) tc]) (e : pk a b c k = x) (h0 : 0 ≤ k) (h3 : k < 3) (h : Q (.str (T x) (pk ta tb tc k)) s)
    (hs : subscripted slice false (.ref l) (.int k u) = operate [.ref l, .int k u] (getItem (.ref l) (.int k u))) :
    wpAny (model prog w) A (subscriptTail value slice (.ref l) (.int k u)) Q E s := by
  have hL : s.heap.IsList l #[.str (T a) ta, .str (T b) tb, .str (T c) tc] := hl.at fun o e => F.keep l o e
  refine tail_any hL.typeIs slot_list_getitem.lookup (wpAny_getItem_list hL h0 (by omega) ?_ h) hs
  have : k = 0 ∨ k = 1 ∨ k = 2 := by omega
  rcases this with rfl | rfl | rfl <;> (subst e; rfl)
theorem head_K {prog : Program} {value slice : PySem.Expr} {d : Nat} {r : List Nat} {t u : Tok} (h : Q (.str (T [d]) s.toks) { s with toks := s.toks + 1 })
    (hs : subscripted slice false (.str (T (d :: r)) t) (.int 0 u) = operate [.str (T (d :: r)) t, .int 0 u] (getItem (.str (T (d :: r)) t) (.int 0 u))) :
    wpAny (model prog w) A (subscriptTail value slice (.str (T (d :: r)) t) (.int 0 u)) Q E s := by
  refine tail_any (typeIs_str s _ t) F.slot_str_getitem.lookup (P.getItem_str (c := d) rfl ?_ h) hs
  have e : seqIndex? 0 (T (d :: r)).length = some 0 := by
    rw [T_len]
    simp [seqIndex?]
  rw [e]
  simp [T]
theorem tok_at {value slice : PySem.Expr} {x : Str} {t : Tok} {v : Value} (F : Fr h₀ L s.heap m) (X : (Mine.hd.heap_39 w.params).In h₀) (e : nsIn (Mine.hd.heap_39 w.params) 22 x = some (some v)) (h : Q v { s with toks := s.toks + 1 })
    (hs : subscripted slice false (.ref 22) (.str x t) = operate [.ref 22, .str x t] (getItem (.ref 22) (.str x t))) :
    wpAny (model PySem.Challenge.rw_ph0074_01.row.prog w) A (subscriptTail value slice (.ref 22) (.str x t)) Q E s := by
  have kf : Mine.hd.heap_39 w.params = Mine.hd.heap_39 w.params ∧ PySem.Challenge.rw_ph0074_01 = PySem.Challenge.rw_ph0074_01 := by (k_fill; exact ⟨rfl, rfl⟩)
  clear kf
  k_dflt (refine' topItem_K F X ?l ?k e h hs; (case l => k_is); (case k => k_keys))
theorem tok_K {value slice : PySem.Expr} {d : Nat} {t : Tok} (F : Fr h₀ L s.heap m) (X : (Mine.hd.heap_39 w.params).In h₀) (hd : Disc d) (h : ∀ tk, Q (.int (tokOf d) tk) { s with toks := s.toks + 1 })
    (hs : ∀ t, subscripted slice false (.ref 22) (.str (T [d]) t) = operate [.ref 22, .str (T [d]) t] (getItem (.ref 22) (.str (T [d]) t))) :
    wpAny (model PySem.Challenge.rw_ph0074_01.row.prog w) A (subscriptTail value slice (.ref 22) (.str (T [d]) t)) Q E s := by
  have kf : Mine.hd.heap_39 w.params = Mine.hd.heap_39 w.params ∧ PySem.Challenge.rw_ph0074_01 = PySem.Challenge.rw_ph0074_01 := by (k_fill; exact ⟨rfl, rfl⟩)
  clear kf
  have h2 : ∀ n tk, n = tokOf d → Q (.int n tk) { s with toks := s.toks + 1 } := fun n tk e => e ▸ h tk
  simp only [Disc, List.mem_cons, List.not_mem_nil, or_false] at hd
  rcases hd with rfl | rfl | rfl | rfl | rfl | rfl | rfl | rfl | rfl
  all_goals (k_dflt (refine' tok_at F X ?e ?_ (hs t); (case e => k_is); exact h2 _ _ (by decide)))

theorem set3_K {prog : Program} {D : Addr} {x0 x1 x2 v : Value} {n : Nat} {k : Int} {t : Tok} {news' : List (Addr × Obj)} {Q : Unit → Shared → Prop} (F : Fr h₀ L s.heap m) (N : News h₀ L s.heap news)
    (U : Upd D (listOf #[x0, x1, x2] n) (listOf #[if k = 0 then v else x0, if k = 1 then v else x1, if k = 2 then v else x2] n) news news') (h0 : 0 ≤ k) (h3 : k < 3)
    (h : ∀ h', Fr h₀ L h' m → News h₀ L h' news' → Q () { s with heap := h' }) : wpAny (model prog w) A (setItem (.ref D) (.int k t) v) Q E s := by
  obtain ⟨pre, post, rfl, rfl, a, b⟩ := U.split
  have z := N (D, listOf #[x0, x1, x2] n) (List.mem_append.mpr (.inr (.head _)))
  refine ki_setAt z.1 h0 (by omega) (by show k < 3; omega) (h _ (F.change (Heap.SameBut.update ..) z.2.1 z.2.2) (ki_turn _ N a b ?_ ?_))
  · have : k = 0 ∨ k = 1 ∨ k = 2 := by omega
    rcases this with rfl | rfl | rfl <;> rfl
  · rfl
end

/-- a loop over range(n): what holds of the frame's names and of the ledger behind each turn -/
def TurnQ (h₀ : Heap) (L : Addr) (J : (Str → Option Value) → List (Addr × Obj) → Prop) (own : List (Addr × Obj)) (s : Shared) (Q : Flow → Shared → Prop) (f : Flow) (s₂ : Shared) : Prop :=
  match f with
  | .ret v => Q (.ret v) s₂
  | .brk => Q .next s₂
  | _ => ∃ h' tk' m' news', s₂ = { s with heap := h', toks := tk' } ∧ Fr h₀ L h' m' ∧ News h₀ L h' (news' ++ own) ∧ (∀ p ∈ own, ∀ q ∈ news', p.1 ≠ q.1) ∧ J m' news'
theorem TurnQ.next {h₀ h' : Heap} {L : Addr} {J : (Str → Option Value) → List (Addr × Obj) → Prop} {own news' : List (Addr × Obj)} {s : Shared} {Q : Flow → Shared → Prop} {tk' : Nat} {m' : Str → Option Value} (F : Fr h₀ L h' m') (N : News h₀ L h' (news' ++ own)) (ne : ∀ p ∈ own, ∀ q ∈ news', p.1 ≠ q.1) (j : J m' news') :
    TurnQ h₀ L J own s Q .next { s with heap := h', toks := tk' } := ⟨h', tk', m', news', rfl, F, N, ne, j⟩
section
variable {prog : Program} {w : World} {A : Around} {E : Value → Shared → Prop} {s : Shared} {env : Env} {h₀ : Heap} {x : Str} {body : List Stmt} {Q : Flow → Shared → Prop}
theorem iter_range_J {r : Addr} {n : Nat} {t u v : Tok} {m₀ : Str → Option Value} {news : List (Addr × Obj)} (J : Nat → (Str → Option Value) → List (Addr × Obj) → Prop)
    (hh : A.handled = none) (hr : IsRange s.heap r 0 n 1 t u v) (hn : n ≤ 100) (F : Fr h₀ env.locals s.heap m₀) (N : News h₀ env.locals s.heap news) (hj : J 0 m₀ news)
    (turn : ∀ (i : Nat) t m₁ news₁ h tk own, i < n → J i m₁ news₁ → (∀ p ∈ own, ∀ q ∈ news₁, p.1 ≠ q.1) → Fr h₀ env.locals h (fun y => if y = x then some (.int i t) else m₁ y) → News h₀ env.locals h (news₁ ++ own) →
      wpAny (model prog w) A (execs body env) (TurnQ h₀ env.locals (J (i + 1)) own s Q) E { s with heap := h, toks := tk })
    (done : ∀ m₁ news₁ h tk, J n m₁ news₁ → Fr h₀ env.locals h m₁ → News h₀ env.locals h news₁ → Q .next { s with heap := h, toks := tk }) :
    wpAny (model prog w) A (pyIter (.ref r)) (fun it s₂ => LoopAtV prog w A h₀ env x body Q E it s₂) E s := by
  have hsm : Builtin.Range.small 0 n 1 = true := small_one (by omega) (by omega) (by omega) (by omega)
  have hrs : Builtin.Range.rangeSize 0 n 1 = (n : Int) := by
    have := rangeSize_nat 0 (n : Int)
    simpa using this
  refine wpAny_pyIter_range hr hsm ?_
  rw [hrs]
  have W := Walks.range (prog := prog) (w := w) hh s.heap.objs.size 0 1 n
  refine ⟨_, _, _, n, _, _, m₀, news, fun i m nw => J i m nw, rfl, W, ?_, ?_, ?_, ?_, F.push _, (fun p hp => ⟨Heap.get?_push_of_some _ (N p hp).1, (N p hp).2⟩), hj, ?_, ?_⟩
  · intro hm
    exact absurd F.ns.lt (List.mem_singleton.mp hm ▸ Nat.lt_irrefl _)
  · intro b hb
    rw [List.mem_singleton.mp hb]
    exact next_is_new F
  · intro p hp hI
    exact absurd (Heap.lt_size (N p hp).1) ((List.mem_singleton.mp hI) ▸ Nat.lt_irrefl _)
  · have e : (s.heap.push { cls := .type "range_iterator", data := .fields #[rawInt 0, rawInt n, rawInt 1] }).get? s.heap.objs.size = some { cls := .type "range_iterator", data := .fields #[rawInt 0, rawInt n, rawInt 1] } := Heap.get?_push_size _ rfl
    simpa [IsRangeIter] using e
  · rintro i v m₁ news₁ s₁ own ⟨hh', tk', rfl⟩ hin ⟨t, rfl⟩ hJ hoff hown _ hall _ F₁ N₁
    have ne : ∀ p ∈ own, ∀ q ∈ news₁, p.1 ≠ q.1 := fun p hp q hq e => hoff q hq (by rw [← e]; exact hown p hp)
    have N₂ : News h₀ env.locals hh' (news₁ ++ own) := fun p hp => N₁ p ((List.mem_append.mp hp).elim (fun h => List.mem_append.mpr (.inr h)) fun h => List.mem_append.mpr (.inl h))
    have F₂ : Fr h₀ env.locals hh' (fun y => if y = x then some (.int i t) else m₁ y) := by
      have e : (0 : Int) + (i : Int) * 1 = i := by omega
      rw [e] at F₁; exact F₁
    refine wpAny_mono (turn i t m₁ news₁ hh' tk' own hin hJ ne F₂ N₂) (fun f s₂ p => ?_) fun _ _ e => e
    have fin : (∃ h' tk' m' news', s₂ = { s with heap := h', toks := tk' } ∧ Fr h₀ env.locals h' m' ∧ News h₀ env.locals h' (news' ++ own) ∧ (∀ p ∈ own, ∀ q ∈ news', p.1 ≠ q.1) ∧ J (i + 1) m' news') → LoopStepU h₀ env.locals [s.heap.objs.size] own (J (i + 1)) { s with heap := hh', toks := tk' } .next s₂ := by
      rintro ⟨h', tk, m', news', e, F', N', hn, hm⟩
      obtain ⟨oI, hoI⟩ : ∃ o, hh'.get? s.heap.objs.size = some o := ⟨_, by assumption⟩
      have hI := hall s.heap.objs.size (.head _) (next_is_new F) oI hoI
      exact ⟨rfl, h', tk, m', news', e, F', fun p hp => N' p ((List.mem_append.mp hp).elim (fun h => List.mem_append.mpr (.inr h)) fun h => List.mem_append.mpr (.inl h)), fun p hp hq => hn _ hI p hp (List.mem_singleton.mp hq).symm, hm⟩
    cases f with
    | ret v => exact .ret p
    | brk => exact .brk p
    | next => exact .next (fin p)
    | cont => exact .cont (fin p)
  · rintro h' tk m' news' F' N' _ hJ
    exact done m' news' h' tk hJ F' N'
end
end
end Mine
namespace Mine
section
theorem reset_MStr : True := by
  first | (walk1; done) | skip
  w_top off
  exact True.intro
theorem slice_from (l : List Nat) (k : Nat) (h : k ≤ l.length) : Txt.slice (T l) (some (k : Int)) none = T (l.drop k) := by
  have e : Txt.slice (T l) (some (k : Int)) none = StrLaws.sliceText (T l) (some (k : Int)) none := rfl
  rw [e, StrLaws.sliceText_from (by simp [T]; omega)]
  simp only [T, List.toList_toArray, Int.toNat_natCast]
  congr 2
  rw [List.take_of_length_le]
  simp only [List.length_drop]
  omega
theorem slice_to (l : List Nat) (k : Nat) (h : k ≤ l.length) : Txt.slice (T l) none (some (k : Int)) = T (l.take k) := by
  have e : Txt.slice (T l) none (some (k : Int)) = StrLaws.sliceText (T l) none (some (k : Int)) := rfl
  rw [e, StrLaws.sliceText_to (by simp [T]; omega)]
  simp [T]
theorem slice_one (d : Nat) (r : List Nat) : Txt.slice (T (d :: r)) (some 1) none = T r := slice_from (d :: r) 1 (by simp)
end
end Mine
namespace Mine
section
theorem reset_MStr2 : True := by
  first | (walk1; done) | skip
  w_top off
  exact True.intro
open PySem.Builtin PySem.Builtin.Str
noncomputable def posL (c : Nat) : List Nat → Nat → List Nat
  | [], _ => []
  | x :: r, k => if x = c then k :: posL c r (k + 1) else posL c r (k + 1)
theorem posL_app (c : Nat) : ∀ (a r : List Nat) (k : Nat), posL c (a ++ r) k = posL c a k ++ posL c r (k + a.length)
  | [], r, k => by simp [posL]
  | x :: a, r, k => by
    have := posL_app c a r (k + 1)
    simp only [List.cons_append, posL, List.length_cons]
    rw [this]
    have e : k + 1 + a.length = k + (a.length + 1) := by omega
    rw [e]
    split <;> rfl
theorem posL_free {c : Nat} : ∀ {a : List Nat} (k : Nat), c ∉ a → posL c a k = []
  | [], _, _ => rfl
  | x :: a, k, h => by
    simp only [List.mem_cons, not_or] at h
    simp only [posL]
    rw [if_neg (fun e => h.1 e.symm)]
    exact posL_free _ h.2
theorem occ_loop (l : List Nat) (c limit : Nat) : ∀ (suf : List Nat) (k : Nat) (arr : Array Nat) (free : Nat), l.drop k = suf → k ≤ l.length → free ≤ k → arr.size ≤ limit →
    (forIn (List.range' k (suf.length + 1)) (arr, free) (StrLaws.occBody (T l) (T [c]) l.length limit)).run.fst.toList = arr.toList ++ (posL c suf k).take (limit - arr.size)
  | [], k, arr, free, hd, hk, hf, ha => by
    have hkl : k = l.length := by
      have := congrArg List.length hd
      simp at this; omega
    simp only [List.length_nil, Nat.zero_add, List.range'_one, posL, List.take_nil, List.append_nil]
    rw [List.forIn_cons]
    unfold StrLaws.occBody
    have hT : (T [c]).length = 1 := T_len [c]
    rw [if_neg (by rw [hT]; omega)]
    rfl
  | x :: suf, k, arr, free, hd, hk, hf, ha => by
    have hlt : k < l.length := by
      rcases Nat.lt_or_ge k l.length with h | h
      · exact h
      · rw [List.drop_eq_nil_of_le h] at hd; cases hd
    have hx : l[k]? = some x := by
      have e := congrArg (fun z => z[0]?) hd
      simpa using e
    have hd' : l.drop (k + 1) = suf := by
      have e := congrArg (List.drop 1) hd
      simpa [List.drop_drop, Nat.add_comm] using e
    have hsub : (k + (T [c]).length ≤ l.length ∧ subAt (T l) (T [c]) k = true) ↔ x = c := by
      have h1 := StrLaws.subAt_one (T l) c k
      have e1 : (T l).length = l.length := T_len l
      have e2 : (T l).cps.toList[k]? = some x := by simpa [T] using hx
      rw [e1, e2] at h1
      exact h1.trans ⟨fun h => Option.some.inj h, fun h => by rw [h]⟩
    rw [show (x :: suf).length + 1 = (suf.length + 1) + 1 from rfl, List.range'_succ, List.forIn_cons]
    have hT : (T [c]).length = 1 := T_len [c]
    unfold StrLaws.occBody
    by_cases hxc : x = c
    · by_cases hl : arr.size < limit
      · have h2 := hsub.mpr hxc
        rw [if_pos ⟨⟨⟨hl, hf⟩, h2.1⟩, h2.2⟩]
        have ih := occ_loop l c limit suf (k + 1) (arr.push k) (k + (T [c]).length) hd' (by omega) (by rw [hT]; omega) (by simp; omega)
        refine ih.trans ?_
        simp only [posL, if_pos hxc, Array.toList_push, Array.size_push]
        have e : limit - arr.size = (limit - (arr.size + 1)) + 1 := by omega
        rw [e, List.take_succ_cons]
        simp
      · rw [if_neg (fun h => hl h.1.1.1)]
        have ih := occ_loop l c limit suf (k + 1) arr free hd' (by omega) (by omega) ha
        refine ih.trans ?_
        have e : limit - arr.size = 0 := by omega
        rw [e]; simp
    · rw [if_neg (fun h => hxc (hsub.mp ⟨h.1.2, h.2⟩))]
      have ih := occ_loop l c limit suf (k + 1) arr free hd' (by omega) (by omega) ha
      refine ih.trans ?_
      simp only [posL, if_neg hxc]
theorem occ_is (l : List Nat) (c limit : Nat) : occurrences (T l) (T [c]) 0 (T l).length limit = (posL c l 0).take limit := by
  rw [StrLaws.occ_eq, T_len]
  have := occ_loop l c limit l 0 #[] 0 (by simp) (by omega) (by omega) (by simp)
  simpa using this
theorem find_is {c : Nat} {a r : List Nat} (h : c ∉ a) : Txt.find (T (a ++ c :: r)) (T [c]) = (a.length : Int) := by
  unfold Txt.find
  rw [occ_is, posL_app, posL_free _ h]
  simp [posL]
theorem sub_is (l : List Nat) (i j : Nat) : strSub (T l) i j = T ((l.drop i).take (j - i)) := by
  unfold strSub T
  simp
theorem kind_T {l : List Nat} (h : ∀ x ∈ l, x < 256) : Builtin.Str.strKind (T l) = 1 := by
  unfold Builtin.Str.strKind
  rw [if_pos]
  simpa [T] using h
theorem split_three {a b r : List Nat} (ha : 39 ∉ a) (hb : 39 ∉ b) (hl : ∀ x ∈ a ++ 39 :: (b ++ 39 :: r), x < 256) : Txt.splitMax (T (a ++ 39 :: (b ++ 39 :: r))) (T [39]) 2 = [T a, T b, T r] := by
  unfold Txt.splitMax
  have e1 : (decide ((T (a ++ 39 :: (b ++ 39 :: r))).length < (T [39]).length) || decide (Builtin.Str.strKind (T (a ++ 39 :: (b ++ 39 :: r))) < Builtin.Str.strKind (T [39]))) = false := by
    rw [T_len, T_len, kind_T hl, kind_T (by simp)]
    simp
  rw [e1]
  have e2 : limitOf (T (a ++ 39 :: (b ++ 39 :: r))) 2 = 2 := rfl
  rw [e2, occ_is, posL_app, posL_free _ ha]
  simp only [List.nil_append, posL, if_true, Nat.zero_add]
  rw [posL_app, posL_free _ hb]
  simp only [List.nil_append, posL, if_true, List.take_succ_cons, List.take_zero, List.isEmpty_cons, Bool.false_eq_true, if_false]
  unfold partsBetween
  have e3 : (T [39]).length = 1 := T_len [39]
  simp only [List.map_cons, List.map_nil, List.cons_append, List.nil_append, List.zip_cons_cons, List.zip_nil_right, e3, sub_is, T_len]
  have k1 : ((a ++ 39 :: (b ++ 39 :: r)).drop 0).take (a.length - 0) = a := by simp
  have k2 : ((a ++ 39 :: (b ++ 39 :: r)).drop (a.length + 1)).take (a.length + 1 + b.length - (a.length + 1)) = b := by
    have : (a ++ 39 :: (b ++ 39 :: r)).drop (a.length + 1) = b ++ 39 :: r := by
      rw [show a ++ 39 :: (b ++ 39 :: r) = (a ++ [39]) ++ (b ++ 39 :: r) by simp]
      rw [show a.length + 1 = (a ++ [39]).length by simp, List.drop_left]
    rw [this, show a.length + 1 + b.length - (a.length + 1) = b.length by omega, List.take_left]
  have k3 : ((a ++ 39 :: (b ++ 39 :: r)).drop (a.length + 1 + b.length + 1)).take ((a ++ 39 :: (b ++ 39 :: r)).length - (a.length + 1 + b.length + 1)) = r := by
    have : (a ++ 39 :: (b ++ 39 :: r)).drop (a.length + 1 + b.length + 1) = r := by
      rw [show a ++ 39 :: (b ++ 39 :: r) = (a ++ 39 :: (b ++ [39])) ++ r by simp]
      rw [show a.length + 1 + b.length + 1 = (a ++ 39 :: (b ++ [39])).length by simp; omega, List.drop_left]
    rw [this, List.take_of_length_le]
    simp; omega
  rw [k1, k2, k3]
theorem split_two {a b : List Nat} (ha : 39 ∉ a) (hb : 39 ∉ b) (hl : ∀ x ∈ a ++ 39 :: b, x < 256) : Txt.splitMax (T (a ++ 39 :: b)) (T [39]) 2 = [T a, T b] := by
  unfold Txt.splitMax
  have e1 : (decide ((T (a ++ 39 :: b)).length < (T [39]).length) || decide (Builtin.Str.strKind (T (a ++ 39 :: b)) < Builtin.Str.strKind (T [39]))) = false := by
    rw [T_len, T_len, kind_T hl, kind_T (by simp)]
    simp
  rw [e1]
  have e2 : limitOf (T (a ++ 39 :: b)) 2 = 2 := rfl
  rw [e2, occ_is, posL_app, posL_free _ ha]
  simp only [List.nil_append, posL, if_true, Nat.zero_add]
  rw [posL_free _ hb]
  simp only [List.take_succ_cons, List.take_nil, List.isEmpty_cons, Bool.false_eq_true, if_false]
  unfold partsBetween
  have e3 : (T [39]).length = 1 := T_len [39]
  simp only [List.map_cons, List.map_nil, List.cons_append, List.nil_append, List.zip_cons_cons, List.zip_nil_right, e3, sub_is, T_len]
  have k1 : ((a ++ 39 :: b).drop 0).take (a.length - 0) = a := by simp
  have k2 : ((a ++ 39 :: b).drop (a.length + 1)).take ((a ++ 39 :: b).length - (a.length + 1)) = b := by
    have : (a ++ 39 :: b).drop (a.length + 1) = b := by
      rw [show a ++ 39 :: b = (a ++ [39]) ++ b by simp]
      rw [show a.length + 1 = (a ++ [39]).length by simp, List.drop_left]
    rw [this, List.take_of_length_le]
    simp; omega
  rw [k1, k2]
theorem tick_is : Str.ofString "'" = T [39] := by decide +kernel
theorem empty_is : Str.ofString "" = T [] := by decide +kernel
end
end Mine
namespace Mine
section
theorem reset_MDec : True := by
  first | (walk1; done) | skip
  w_top off
  exact True.intro
section
variable {prog : Program} {w : World} {A : Around} {E : Value → Shared → Prop} {s : Shared} {x y p q r : Str} {t u v : Tok} {k : Int} {h₀ : Heap} {L : Addr} {m : Str → Option Value} {news : List (Addr × Obj)} {Q : Value → Shared → Prop}
theorem split3_K (F : Fr h₀ L s.heap m) (N : News h₀ L s.heap news) (e : Txt.splitMax x y k = [p, q, r]) (hy : (y.length == 0) = false) (hk : (decide (k < -(2 ^ 63 : Int)) || decide (k ≥ 2 ^ 63)) = false) (hsz : x.length + 2 ≤ sizeLine)
    (h : ∀ l h' tk t1 t2 t3, Fr h₀ L h' m → News h₀ L h' ((l, listOf #[.str p t1, .str q t2, .str r t3] 0) :: news) → (∀ p ∈ news, p.1 < l) → Q (.ref l) { s with heap := h', toks := tk }) :
    wpAny (model prog w) A (call (.builtin "str.split") [.str x t, .str y u, .int k v]) Q E s := by
  refine splitN2A F N hy hk (fun l h' tk el _ _ _ F' N' => ?_) hsz
  rw [e] at el
  obtain ⟨⟨a, t1⟩, ⟨b, t2⟩, ⟨c, t3⟩, rfl⟩ := len3 ((List.length_map _).symm.trans (congrArg List.length el))
  simp only [List.map_cons, List.map_nil, List.cons.injEq, and_true] at el
  obtain ⟨rfl, rfl, rfl⟩ := el
  exact h _ h' tk t1 t2 t3 F' N' fun p hp => Heap.lt_size (N p hp).1
theorem split2_K (F : Fr h₀ L s.heap m) (N : News h₀ L s.heap news) (e : Txt.splitMax x y k = [p, q]) (hy : (y.length == 0) = false) (hk : (decide (k < -(2 ^ 63 : Int)) || decide (k ≥ 2 ^ 63)) = false) (hsz : x.length + 2 ≤ sizeLine)
    (h : ∀ l h' tk t1 t2, Fr h₀ L h' m → News h₀ L h' ((l, listOf #[.str p t1, .str q t2] 0) :: news) → (∀ p ∈ news, p.1 < l) → Q (.ref l) { s with heap := h', toks := tk }) :
    wpAny (model prog w) A (call (.builtin "str.split") [.str x t, .str y u, .int k v]) Q E s := by
  refine splitN2A F N hy hk (fun l h' tk el _ _ _ F' N' => ?_) hsz
  rw [e] at el
  obtain ⟨⟨a, t1⟩, ⟨b, t2⟩, rfl⟩ := len2 ((List.length_map _).symm.trans (congrArg List.length el))
  simp only [List.map_cons, List.map_nil, List.cons.injEq, and_true] at el
  obtain ⟨rfl, rfl⟩ := el
  exact h _ h' tk t1 t2 F' N' fun p hp => Heap.lt_size (N p hp).1
end
local macro_rules | `(tactic| walk_at "call builtin:str.split") => `(tactic| (k_here; k_dflt (refine' split3_K ?k1 ?k2 ?k3 ?k4 ?k5 ?k6 ?_; (case k1 => k_asm); (case k2 => k_asm); (case k3 => assumption); (case k4 => rfl); (case k5 => rfl); (case k6 => (rw [PySem.sizeLine_eq]; omega)); k_whole); intro l' h' tk' t1' t2' t3' F' N' l1; (try k_lt l1)))
theorem spec_decode3 (w : World) (x p q r : Str) (t : Tok) (hx : x.length ≤ 100) (hs : Txt.splitMax x (Str.ofString "'") 2 = [p, q, r]) :
    Spec 21 640 500 w [.str x t] (fun _ => True) (fun g h v => ∃ l t1 t2 t3, v = .ref l ∧ g.get? l = none ∧ h.get? l = some (listOf #[.str p t1, .str q t2, .str r t3] 0)) := by
  have kf : Mine.hd.heap_39 w.params = Mine.hd.heap_39 w.params ∧ PySem.Challenge.rw_ph0074_01 = PySem.Challenge.rw_ph0074_01 := by (k_fill; exact ⟨rfl, rfl⟩)
  clear kf
  k_dflt (refine' spec_enter ?k6 ?k7 ?k8 ?k9 ?kB ?c2 ?c3 ?c4 ?c5 ?pre ?post ?_; (case k6 => k_is); (case k7 => k_is); (case k8 => decide); (case k9 => (intro s; exact BindsTo.of_eq rfl)); (case c5 => decide); (case kB => exact locs rfl); (case c2 => exact rfl); (case c3 => exact rfl); (case c4 => exact rfl); (case pre => (intro _ _ _ h; exact h)); (case post => (rintro a b h v k ⟨l, t1, t2, t3, rfl, e, r⟩; exact ⟨l, t1, t2, t3, rfl, k.none e, r⟩)))
  intro gd env outer base g L' h₁ mean mg mb s tk F' N' B' X' T' hpre
  k_fold
  k_steps
  (try dsimp only); (try k_unfold); (try dsimp only)
  rename News _ _ _ _ => N9
  exact FinQ.intro (by k_asm) ⟨_, _, _, _, rfl, (N9 _ (.head _)).2.2, (N9 _ (.head _)).1⟩
local macro_rules | `(tactic| walk_at "call builtin:str.split") => `(tactic| (k_here; k_dflt (refine' split2_K ?k1 ?k2 ?k3 ?k4 ?k5 ?k6 ?_; (case k1 => k_asm); (case k2 => k_asm); (case k3 => assumption); (case k4 => rfl); (case k5 => rfl); (case k6 => (rw [PySem.sizeLine_eq]; omega)); k_whole); intro l' h' tk' t1' t2' F' N' l1; (try k_lt l1)))
theorem spec_decode2 (w : World) (x p q : Str) (t : Tok) (hx : x.length ≤ 100) (hs : Txt.splitMax x (Str.ofString "'") 2 = [p, q]) :
    Spec 21 640 500 w [.str x t] (fun _ => True) (fun g h v => ∃ l, v = .ref l ∧ g.get? l = none ∧ h.get? l = some { cls := .type "tuple", data := .seq #[.none, .none, .str x t] }) := by
  have kf : Mine.hd.heap_39 w.params = Mine.hd.heap_39 w.params ∧ PySem.Challenge.rw_ph0074_01 = PySem.Challenge.rw_ph0074_01 := by (k_fill; exact ⟨rfl, rfl⟩)
  clear kf
  k_dflt (refine' spec_enter ?k6 ?k7 ?k8 ?k9 ?kB ?c2 ?c3 ?c4 ?c5 ?pre ?post ?_; (case k6 => k_is); (case k7 => k_is); (case k8 => decide); (case k9 => (intro s; exact BindsTo.of_eq rfl)); (case c5 => decide); (case kB => exact locs rfl); (case c2 => exact rfl); (case c3 => exact rfl); (case c4 => exact rfl); (case pre => (intro _ _ _ h; exact h)); (case post => (rintro a b h v k ⟨l, rfl, e, r⟩; exact ⟨l, rfl, k.none e, r⟩)))
  intro gd env outer base g L' h₁ mean mg mb s tk F' N' B' X' T' hpre
  k_fold
  k_steps
  (try dsimp only); (try k_unfold); (try dsimp only)
  rename News _ _ _ _ => N9
  exact FinQ.intro (by k_asm) ⟨_, rfl, (N9 _ (.head _)).2.2, (N9 _ (.head _)).1⟩
end
end Mine
namespace Mine
section
theorem reset_MRead : True := by
  first | (walk1; done) | skip
  w_top off
  exact True.intro
section
variable {w : World} {A A₀ : Around} {env : Env} {outer : List Env} {E : Value → Shared → Prop} {s : Shared} {h₀ base : Heap} {L : Addr} {m mg mb : Str → Option Value} {mean : ExcName → Option Value} {news : List (Addr × Obj)} {Q : Value → Shared → Prop}
theorem use_decode3 {x p q r : Str} {t : Tok} (PA : Pre6 A env outer L 640 500) (PB : Pre5 A₀ base outer h₀ L m mean mg mb s.heap w news)
    (hx : x.length ≤ 100) (hs : Txt.splitMax x (Str.ofString "'") 2 = [p, q, r])
    (h : ∀ l h' tk t1 t2 t3, Fr h₀ L h' m → News h₀ L h' ((l, listOf #[.str p t1, .str q t2, .str r t3] 0) :: news) → (∀ p ∈ news, p.1 ≠ l) → Q (.ref l) { s with heap := h', toks := tk }) :
    wpAny (model PySem.Challenge.rw_ph0074_01.row.prog w) A (call (.ref 21) [.str x t]) Q E s := by
  obtain ⟨hh, hA, hf, hke, hd, hu⟩ := PA
  obtain ⟨B, F, X, T, N⟩ := PB
  refine spec_decode3 w x p q r t hx hs A env outer A₀ base h₀ L m mean mg mb s Q E hh hA hf hke hd hu B F X T trivial ?_
  rintro v h' tk' k ⟨l, t1, t2, t3, rfl, e, o⟩
  exact h l h' tk' t1 t2 t3 (F.keeps k) (news_add F N k e o) (news_ne N e)
end
local macro_rules | `(tactic| walk_at "call ref") => `(tactic| (k_here; (with_reducible show wpAny _ _ (call (Value.ref 21) [Value.str _ _]) _ _ _); k_dflt (refine' use_decode3 ?PA ?PB ?hx ?hs ?_; (case PA => exact pre6 rfl rfl rfl rfl rfl rfl); (case PB => refine ⟨?_, ?_, ?_, ?_, ?_⟩ <;> k_asm); (case hx => omega); (case hs => assumption); k_whole); intro l' h' tk' t1' t2' t3' F' N' l1; (try dsimp only); (try k_fold)))
theorem spec_read (w : World) (x p q r c note : Str) (t : Tok) (hx : x.length ≤ 100) (hs : Txt.splitMax x (Str.ofString "'") 2 = [p, q, r]) (hr : r.length ≤ 100) (hf : 0 ≤ Txt.find r (Str.ofString "'"))
    (hc : Txt.slice r none (some (Txt.find r (Str.ofString "'"))) = c) (hn : Txt.slice r (some (Txt.find r (Str.ofString "'"))) none = note) :
    Spec 43 630 490 w [.str x t] (fun _ => True) (fun g h v => ∃ l d t1 t2 t3 t4, v = .ref d ∧ g.get? l = none ∧ g.get? d = none ∧ h.get? l = some (listOf #[.str p t1, .str q t2, .str c t3] 0) ∧ h.get? d = some { cls := .type "tuple", data := .seq #[.ref l, .str note t4] }) := by
  have kf : Mine.hd.heap_39 w.params = Mine.hd.heap_39 w.params ∧ PySem.Challenge.rw_ph0074_01 = PySem.Challenge.rw_ph0074_01 := by (k_fill; exact ⟨rfl, rfl⟩)
  clear kf
  k_dflt (refine' spec_enter ?k6 ?k7 ?k8 ?k9 ?kB ?c2 ?c3 ?c4 ?c5 ?pre ?post ?_; (case k6 => k_is); (case k7 => k_is); (case k8 => decide); (case k9 => (intro s; exact BindsTo.of_eq rfl)); (case c5 => decide); (case kB => exact locs rfl); (case c2 => exact rfl); (case c3 => exact rfl); (case c4 => exact rfl); (case pre => (intro _ _ _ h; exact h)); (case post => (rintro a b h v k ⟨l, d, t1, t2, t3, t4, rfl, e1, e2, r1, r2⟩; exact ⟨l, d, t1, t2, t3, t4, rfl, k.none e1, k.none e2, r1, r2⟩)))
  intro gd env outer base g L' h₁ mean mg mb s tk F' N' B' X' T' hpre
  k_fold
  k_steps
  (try dsimp only); (try k_unfold); (try dsimp only)
  rename News _ _ _ _ => N9
  rw [hc, hn] at N9
  exact FinQ.intro (by k_asm) ⟨_, _, _, _, _, _, rfl, (N9 _ (.tail _ (.head _))).2.2, (N9 _ (.head _)).2.2, (N9 _ (.tail _ (.head _))).1, (N9 _ (.head _)).1⟩
end
end Mine
namespace Mine
section
theorem reset_MMoves : True := by
  first | (walk1; done) | skip
  w_top off
  exact True.intro
abbrev Tri := List Nat × List Nat × List Nat
def okMove (y : List Nat) (d : Nat) : Bool := match y with
  | [] => true
  | e :: _ => decide (tokOf d < tokOf e)
def mvTo (a b c : List Nat) (i j : Int) (d : Nat) (r : List Nat) (k : Int) : List Nat := if k = j then d :: pk a b c j else if k = i then r else pk a b c k
def mv (a b c : List Nat) (i j : Int) : List Tri := if i = j then [] else match pk a b c i with
  | [] => []
  | d :: r => if okMove (pk a b c j) d then [(mvTo a b c i j d r 0, mvTo a b c i j d r 1, mvTo a b c i j d r 2)] else []
def mvRow (a b c : List Nat) (i : Int) : Nat → List Tri
  | 0 => []
  | n + 1 => mvRow a b c i n ++ mv a b c i n
def mvAll (a b c : List Nat) : Nat → List Tri
  | 0 => []
  | n + 1 => mvAll a b c n ++ mvRow a b c n 3
inductive Refs (rest : List (Addr × Obj)) : List Value → List Tri → Prop
  | nil : Refs rest [] []
  | snoc {vs : List Value} {Ms : List Tri} {M : Tri} {r : Addr} {t0 t1 t2 : Tok} {n : Nat} : Refs rest vs Ms → (r, listOf #[.str (T M.1) t0, .str (T M.2.1) t1, .str (T M.2.2) t2] n) ∈ rest → Refs rest (vs ++ [.ref r]) (Ms ++ [M])
theorem Refs.mono {rest rest' : List (Addr × Obj)} {vs : List Value} {Ms : List Tri} (h : Refs rest vs Ms) (k : ∀ p ∈ rest, p ∈ rest') : Refs rest' vs Ms := by
  induction h with
  | nil => exact .nil
  | snoc _ hm ih => exact .snoc ih (k _ hm)
def JO (l D : Addr) (a b c : List Nat) (i : Nat) (m : Str → Option Value) (news : List (Addr × Obj)) : Prop :=
  ∃ its n rest, news = (D, listOf its.toArray n) :: rest ∧ (∀ p ∈ rest, p.1 ≠ D) ∧ Refs rest its (mvAll a b c i) ∧ m (Str.ofString "pegs") = some (.ref l) ∧ m (Str.ofString "moves") = some (.ref D)
def JI (l D : Addr) (a b c : List Nat) (i : Nat) (ti : Tok) (own : List (Addr × Obj)) (j : Nat) (m : Str → Option Value) (news : List (Addr × Obj)) : Prop :=
  ∃ its n rest, news = (D, listOf its.toArray n) :: (rest ++ own) ∧ (∀ p ∈ rest ++ own, p.1 ≠ D) ∧ (∀ p ∈ own, ∀ q ∈ rest, p.1 ≠ q.1) ∧ Refs rest its (mvAll a b c i ++ mvRow a b c i j) ∧ m (Str.ofString "pegs") = some (.ref l) ∧ m (Str.ofString "moves") = some (.ref D) ∧ m (Str.ofString "one") = some (.int i ti)

theorem str_if {p q : Prop} [Decidable p] [Decidable q] (x y z : Str) (t u v : Tok) : (if p then Value.str x t else if q then Value.str y u else Value.str z v) = Value.str (if p then x else if q then y else z) (if p then t else if q then u else v) := by
  split
  · rfl
  · split <;> rfl
theorem moved_txt {a b c y r : List Nat} {d : Nat} {i j k : Int} (hy : pk a b c j = y) : (if j = k then T [d] ++ T y else if i = k then Txt.slice (T (d :: r)) (some 1) none else T (pk a b c k)) = T (mvTo a b c i j d r k) := by
  unfold mvTo
  by_cases h1 : j = k
  · have h1' : k = j := h1.symm
    rw [if_pos h1, if_pos h1', T_app, hy]; rfl
  · have h1' : ¬ k = j := fun e => h1 e.symm
    rw [if_neg h1, if_neg h1']
    by_cases h2 : i = k
    · have h2' : k = i := h2.symm
      rw [if_pos h2, if_pos h2', slice_one]
    · have h2' : ¬ k = i := fun e => h2 e.symm
      rw [if_neg h2, if_neg h2']
theorem moved_obj {a b c y r : List Nat} {d : Nat} {i j : Int} {t t1 ta tb tc : Tok} (hy : pk a b c j = y) :
    (#[if j = 0 then Value.str (T [d] ++ T y) t else if i = 0 then Value.str (Txt.slice (T (d :: r)) (some 1) none) t1 else Value.str (T a) ta,
       if j = 1 then Value.str (T [d] ++ T y) t else if i = 1 then Value.str (Txt.slice (T (d :: r)) (some 1) none) t1 else Value.str (T b) tb,
       if j = 2 then Value.str (T [d] ++ T y) t else if i = 2 then Value.str (Txt.slice (T (d :: r)) (some 1) none) t1 else Value.str (T c) tc] : Array Value) =
    #[Value.str (T (mvTo a b c i j d r 0)) (if j = 0 then t else if i = 0 then t1 else ta), Value.str (T (mvTo a b c i j d r 1)) (if j = 1 then t else if i = 1 then t1 else tb), Value.str (T (mvTo a b c i j d r 2)) (if j = 2 then t else if i = 2 then t1 else tc)] := by
  have e0 := moved_txt (a := a) (b := b) (c := c) (r := r) (d := d) (i := i) (k := 0) hy
  have e1 := moved_txt (a := a) (b := b) (c := c) (r := r) (d := d) (i := i) (k := 1) hy
  have e2 := moved_txt (a := a) (b := b) (c := c) (r := r) (d := d) (i := i) (k := 2) hy
  rw [str_if, str_if, str_if, ← e0, ← e1, ← e2]
  rfl
theorem mv_eq {a b c : List Nat} {i j : Int} (hij : i = j) : mv a b c i j = [] := by unfold mv; rw [if_pos hij]
theorem mv_nil {a b c : List Nat} {i j : Int} (hx : pk a b c i = []) : mv a b c i j = [] := by unfold mv; rw [hx]; split <;> rfl
theorem mv_no {a b c y r : List Nat} {d : Nat} {i j : Int} (hx : pk a b c i = d :: r) (hy : pk a b c j = y) (h : okMove y d = false) : mv a b c i j = [] := by
  unfold mv; rw [hx, hy]; split
  · rfl
  · simp [h]
theorem mv_yes {a b c y r : List Nat} {d : Nat} {i j : Int} (hij : ¬ i = j) (hx : pk a b c i = d :: r) (hy : pk a b c j = y) (h : okMove y d = true) : mv a b c i j = [(mvTo a b c i j d r 0, mvTo a b c i j d r 1, mvTo a b c i j d r 2)] := by
  unfold mv; rw [hx, hy, if_neg hij]; simp [h]
theorem mvRow_succ (a b c : List Nat) (i : Int) (n : Nat) : mvRow a b c i (n + 1) = mvRow a b c i n ++ mv a b c i n := rfl
theorem Refs.len {rest : List (Addr × Obj)} {vs : List Value} {Ms : List Tri} (h : Refs rest vs Ms) : vs.length = Ms.length := by
  induction h with
  | nil => rfl
  | snoc _ _ ih => simp [ih]
theorem mv_len (a b c : List Nat) (i j : Int) : (mv a b c i j).length ≤ 1 := by
  unfold mv
  split
  · simp
  · split
    · simp
    · split <;> simp
theorem mvRow_len (a b c : List Nat) (i : Int) : ∀ n, (mvRow a b c i n).length ≤ n
  | 0 => by simp [mvRow]
  | n + 1 => by have := mvRow_len a b c i n; have := mv_len a b c i n; simp only [mvRow, List.length_append]; omega
theorem mvAll_len (a b c : List Nat) : ∀ n, (mvAll a b c n).length ≤ 3 * n
  | 0 => by simp [mvAll]
  | n + 1 => by have := mvAll_len a b c n; have := mvRow_len a b c n 3; simp only [mvAll, List.length_append]; omega
section
variable {g h : Heap} {L l D D' : Addr} {a b c : List Nat} {i j : Nat} {ti : Tok} {own own₂ rest R : List (Addr × Obj)} {its : List Value} {n : Nat} {m' : Str → Option Value} {s : Shared} {Q : Flow → Shared → Prop} {tk : Nat}
/-- a turn that makes no move -/
theorem turn_none (F : Fr g L h m') (N : News g L h ((D, listOf its.toArray n) :: R)) (hRe : R = rest ++ own ++ own₂) (hD : ∀ p ∈ rest ++ own, p.1 ≠ D) (ne : ∀ p ∈ own, ∀ q ∈ rest, p.1 ≠ q.1)
    (ne₂ : ∀ p ∈ own₂, ∀ q ∈ (D, listOf its.toArray n) :: (rest ++ own), p.1 ≠ q.1) (hR : Refs rest its (mvAll a b c i ++ mvRow a b c i j)) (e : mv a b c i j = [])
    (mp : m' (Str.ofString "pegs") = some (.ref l)) (mm : m' (Str.ofString "moves") = some (.ref D)) (mo : m' (Str.ofString "one") = some (.int i ti)) :
    TurnQ g L (JI l D a b c i ti own (j + 1)) own₂ s Q .next { s with heap := h, toks := tk } := by
  refine TurnQ.next (news' := (D, listOf its.toArray n) :: (rest ++ own)) F ?_ ne₂ ⟨its, n, rest, rfl, hD, ne, ?_, mp, mm, mo⟩
  · rw [hRe] at N; exact N
  · rw [mvRow_succ, e, List.append_nil]; exact hR
/-- a turn that makes one -/
theorem turn_one {M : Tri} {t0 t1 t2 : Tok} {k n' : Nat} (F : Fr g L h m') (N : News g L h ((D', listOf #[.str (T M.1) t0, .str (T M.2.1) t1, .str (T M.2.2) t2] k) :: (D, listOf (its.toArray.push (.ref D')) n') :: R)) (hRe : R = rest ++ own ++ own₂) (hD : ∀ p ∈ rest ++ own, p.1 ≠ D) (ne : ∀ p ∈ own, ∀ q ∈ rest, p.1 ≠ q.1)
    (ne₂ : ∀ p ∈ own₂, ∀ q ∈ (D, listOf its.toArray n) :: (rest ++ own), p.1 ≠ q.1) (hR : Refs rest its (mvAll a b c i ++ mvRow a b c i j)) (hl : D < D' ∧ AllLt D' R) (e : mv a b c i j = [M])
    (mp : m' (Str.ofString "pegs") = some (.ref l)) (mm : m' (Str.ofString "moves") = some (.ref D)) (mo : m' (Str.ofString "one") = some (.int i ti)) :
    TurnQ g L (JI l D a b c i ti own (j + 1)) own₂ s Q .next { s with heap := h, toks := tk } := by
  have lt : ∀ p ∈ R, p.1 < D' := ktn_ltOf hl.2
  have ltA : ∀ p ∈ rest ++ own, p.1 ≠ D' := fun p hp => Nat.ne_of_lt (lt p (by rw [hRe]; exact List.mem_append_left _ hp))
  have ltB : ∀ p ∈ own₂, p.1 ≠ D' := fun p hp => Nat.ne_of_lt (lt p (by rw [hRe]; exact List.mem_append_right _ hp))
  refine TurnQ.next (news' := (D, listOf (its ++ [Value.ref D']).toArray n') :: (((D', listOf #[.str (T M.1) t0, .str (T M.2.1) t1, .str (T M.2.2) t2] k) :: rest) ++ own)) F ?_ ?_ ⟨its ++ [Value.ref D'], n', (D', listOf #[.str (T M.1) t0, .str (T M.2.1) t1, .str (T M.2.2) t2] k) :: rest, rfl, ?_, ?_, ?_, mp, mm, mo⟩
  · intro p hp
    have e1 : (its ++ [Value.ref D']).toArray = its.toArray.push (.ref D') := by simp
    rw [e1] at hp
    refine N p ?_
    simp only [List.cons_append, List.mem_cons, List.mem_append, hRe] at hp ⊢
    rcases hp with h | h | h <;> simp only [h, true_or, or_true]
  · intro p hp q hq
    simp only [List.cons_append, List.mem_cons] at hq
    rcases hq with rfl | rfl | hq
    · exact ne₂ p hp (D, listOf its.toArray n) (.head _)
    · exact ltB p hp
    · exact ne₂ p hp q (.tail _ hq)
  · intro p hp
    simp only [List.cons_append, List.mem_cons] at hp
    rcases hp with rfl | hp
    · exact Nat.ne_of_gt hl.1
    · exact hD p hp
  · intro p hp q hq
    rcases List.mem_cons.mp hq with rfl | hq
    · exact ltA p (List.mem_append_right _ hp)
    · exact ne p hp q hq
  · rw [mvRow_succ, e, ← List.append_assoc]
    exact .snoc (hR.mono fun p hp => .tail _ hp) (.head _)
end
theorem map3 {m : Str → Option Value} {x y z : Str} {u v o : Value} (hx : m x = some u) (hy : m y = some v) (hz : m z = some o) : m = fun k => if k = x then some u else if k = y then some v else if k = z then some o else m k := by
  funext k
  by_cases h1 : k = x
  · simp [h1, hx]
  · by_cases h2 : k = y
    · subst h2; simp only [if_neg h1, if_true]; exact hy
    · by_cases h3 : k = z
      · subst h3; simp only [if_neg h1, if_neg h2, if_true]; exact hz
      · simp only [if_neg h1, if_neg h2, if_neg h3]
theorem pk_len {a b c : List Nat} (k : Int) (ha : a.length ≤ 4) (hb : b.length ≤ 4) (hc : c.length ≤ 4) : (pk a b c k).length ≤ 4 := by
  unfold pk; repeat' split
  all_goals assumption
theorem pk_disc {a b c : List Nat} (k : Int) (ha : ∀ d ∈ a, Disc d) (hb : ∀ d ∈ b, Disc d) (hc : ∀ d ∈ c, Disc d) : ∀ d ∈ pk a b c k, Disc d := by
  unfold pk; repeat' split
  all_goals assumption
local macro_rules | `(tactic| walk_at "subscriptTail Name Name ref int") => `(tactic| (k_here; k_dflt (refine' item3_K ?F ?hl ?e ?h0 ?h3 ?_ ?hs; (case F => k_asm); (case hl => k_asm); (case e => assumption); (case h0 => omega); (case h3 => omega); (case hs => with_unfolding_all rfl); k_whole)))
local macro_rules | `(tactic| walk_at "subscriptTail") => `(tactic| (k_here; (with_reducible show wpAny _ _ (subscriptTail _ _ (Value.str (T (_ :: _)) _) (Value.int 0 _)) _ _ _); k_dflt (refine' head_K ?_ ?hs; (case hs => with_unfolding_all rfl); k_whole)))
local macro_rules | `(tactic| walk_at "subscriptTail") => `(tactic| (k_here; (with_reducible show wpAny _ _ (subscriptTail _ _ (Value.ref 22) (Value.str (T [_]) _)) _ _ _); k_dflt (refine' tok_K ?F ?X ?d ?_ ?hs; (case F => k_asm); (case X => k_asm); (case d => assumption); (case hs => (intro _; with_unfolding_all rfl)); k_whole); intro tkD))
theorem ite_pos' {c : Prop} [Decidable c] {a b : Prop} (h : c) (k : a) : if c then a else b := by rw [if_pos h]; exact k
theorem ite_neg' {c : Prop} [Decidable c] {a b : Prop} (h : ¬ c) (k : b) : if c then a else b := by rw [if_neg h]; exact k
local macro_rules | `(tactic| walk_at "by omega") => `(tactic| (simp only [decide_eq_true_eq, decide_eq_false_iff_not, Bool.not_eq_true', bne_iff_ne, ne_eq, Bool.and_eq_true, Bool.not_eq_true, Bool.not_eq_false]; omega))
local macro_rules | `(tactic| walk_at "ite") => `(tactic| (k_here; first
  | refine ite_pos' (by walk_at "by omega") ?_
  | refine ite_neg' (by walk_at "by omega") ?_))
local macro_rules | `(tactic| walk_at "call builtin:list.append") => `(tactic| (k_here; (with_reducible show wpAny _ _ (call (Value.builtin _) [Value.ref _, _]) _ _ _); k_dflt (refine' append_K ?k1 ?k2 ?k3 ?_ ?z; (case k1 => k_asm); (case k2 => k_asm); (case k3 => exact Upd.tail (by k_ne) (Upd.head (by assumption))); (case z => (rw [PySem.sizeLine_eq]; omega)); k_whole); intro h' F' N'))
local macro_rules | `(tactic| walk_at "setItem ref int") => `(tactic| (k_here; k_dflt (refine' set3_K ?F ?N ?U ?h0 ?h3 ?_; (case F => k_asm); (case N => k_asm); (case U => k_upd); (case h0 => omega); (case h3 => omega); k_whole); intro h' F' N'))
local macro_rules | `(tactic| walk_at "exec For Name Call cons nil") => `(tactic| (k_here; (rename Fr _ _ _ _ => lF'); (with_unfolding_all refine' For_invVF lF' ?k1 ?k2 ?_ ?k3 ?k4; (case k1 => exact rfl); (case k2 => exact rfl); (case k3 => (intro _; rfl)); (case k4 => exact PassesOwn.never); k_whole)))
local macro_rules | `(tactic| walk_at "pyIter ref") => `(tactic| refine hold_ ?_)
theorem spec_moves (w : World) (l : Addr) (a b c : List Nat) (ta tb tc : Tok) (ha : a.length ≤ 4) (hb : b.length ≤ 4) (hc : c.length ≤ 4) (hda : ∀ d ∈ a, Disc d) (hdb : ∀ d ∈ b, Disc d) (hdc : ∀ d ∈ c, Disc d) :
    Spec 50 630 490 w [.ref l] (fun h => h.IsList l #[.str (T a) ta, .str (T b) tb, .str (T c) tc]) (fun g h v => ∃ D its n rest, v = .ref D ∧ (∀ p ∈ (D, listOf its.toArray n) :: rest, g.get? p.1 = none ∧ h.get? p.1 = some p.2) ∧ Refs rest its (mvAll a b c 3) ∧ ∀ p ∈ rest, p.1 ≠ D) := by
  have kf : Mine.hd.heap_39 w.params = Mine.hd.heap_39 w.params ∧ PySem.Challenge.rw_ph0074_01 = PySem.Challenge.rw_ph0074_01 := by (k_fill; exact ⟨rfl, rfl⟩)
  clear kf
  k_dflt (refine' spec_enter ?k6 ?k7 ?k8 ?k9 ?kB ?c2 ?c3 ?c4 ?c5 ?pre ?post ?_; (case k6 => k_is); (case k7 => k_is); (case k8 => decide); (case k9 => (intro s; exact BindsTo.of_eq rfl)); (case c5 => decide); (case kB => exact locs rfl); (case c2 => exact rfl); (case c3 => exact rfl); (case c4 => exact rfl); (case pre => (intro _ _ k h; exact h.at fun o e => k _ o e)); (case post => (rintro a b h v k ⟨D, its, n, rest, rfl, e, r⟩; exact ⟨D, its, n, rest, rfl, fun p hp => ⟨k.none (e p hp).1, (e p hp).2⟩, r⟩)))
  intro gd env outer base g L' h₁ mean mg mb s tk F' N' B' X' T' hpre
  k_fold
  k_steps
  rename IsRange _ _ _ _ _ _ _ _ => hr
  rename Fr _ _ _ _ => F1
  rename News _ _ _ _ => N1
  refine iter_range_J (n := 3) (JO l _ a b c) rfl hr (by decide) F1 N1 ⟨[], 0, [], rfl, (fun _ h => nomatch h), .nil, rfl, rfl⟩ ?_ ?_
  · clear hr F1 N1
    rintro i t m₁ news₁ h tk₁ own hi ⟨its, n, rest, rfl, hD, hR, mp, mm⟩ ne F2 N2
    dsimp only at F2 N2 ⊢
    k_fold
    k_steps
    rename IsRange _ _ _ _ _ _ _ _ => hr
    rename Fr _ _ _ _ => F1
    rename News _ _ _ _ => N1
    refine iter_range_J (n := 3) (JI l _ a b c i t own) rfl hr (by decide) F1 N1 ⟨its, n, rest, rfl, ?_, (fun p hp q hq => ne p hp q (.tail _ hq)), (by simpa [mvRow] using hR), (by show (if _ then _ else _) = _; rw [if_neg (by decide)]; exact mp), (by show (if _ then _ else _) = _; rw [if_neg (by decide)]; exact mm), (by show (if _ then _ else _) = _; rw [if_pos rfl])⟩ ?_ ?_
    · intro p hp
      rcases List.mem_append.mp hp with hp | hp
      · exact hD p hp
      · exact ne p hp _ (.head _)
    · clear hr F1 N1 hR hD mp mm ne
      rintro j tj m₂ news₂ h tk₂ own₂ hj ⟨its, n, rest, rfl, hD, ne, hR, mp, mm, mo⟩ ne₂ F2 N2
      dsimp only at ⊢
      change Fr g L' h _ at F2
      change News g L' h _ at N2
      rw [map3 mo mm mp] at F2
      dsimp only at F2
      have hi0 : (0 : Int) ≤ i := by omega
      have hi3 : (i : Int) < 3 := by omega
      have hj0 : (0 : Int) ≤ j := by omega
      have hj3 : (j : Int) < 3 := by omega
      obtain ⟨x, hx⟩ : ∃ x, pk a b c (i : Int) = x := ⟨_, rfl⟩
      obtain ⟨y, hy⟩ : ∃ y, pk a b c (j : Int) = y := ⟨_, rfl⟩
      have hxl : x.length ≤ 4 := hx ▸ pk_len _ ha hb hc
      have hyl : y.length ≤ 4 := hy ▸ pk_len _ ha hb hc
      have hxd : ∀ d ∈ x, Disc d := hx ▸ pk_disc _ hda hdb hdc
      have hyd : ∀ d ∈ y, Disc d := hy ▸ pk_disc _ hda hdb hdc
      obtain ⟨R, hRe⟩ : ∃ R, R = (rest ++ own) ++ own₂ := ⟨_, rfl⟩
      rw [List.cons_append, ← hRe] at N2
      have hRD : ∀ p ∈ R, p.1 ≠ _ := fun p hp => by
        rw [hRe] at hp
        rcases List.mem_append.mp hp with hp | hp
        · exact hD p hp
        · exact ne₂ p hp _ (.head _)
      have hsz : its.toArray.size ≤ 100 := by
        have h1 := hR.len
        have h2 := mvAll_len a b c i
        have h3 := mvRow_len a b c i j
        simp only [List.length_append] at h1
        rw [List.size_toArray]
        omega
      (try k_unmd); k_fold
      by_cases hij : (i : Int) = j
      · k_steps
        (try dsimp only); (try k_unfold); (try dsimp only)
        rename Fr _ _ _ _ => F9
        rename News _ _ _ _ => N9
        exact turn_none F9 N9 hRe hD ne ne₂ hR (mv_eq hij) rfl rfl rfl
      cases x with
      | nil =>
        have hT := T_len []
        simp only [List.length_nil] at hT
        k_steps
        (try dsimp only); (try k_unfold); (try dsimp only)
        rename Fr _ _ _ _ => F9
        rename News _ _ _ _ => N9
        exact turn_none F9 N9 hRe hD ne ne₂ hR (mv_nil hx) rfl rfl rfl
      | cons d r =>
        have hT := T_len (d :: r)
        have hd : Disc d := hxd d (.head _)
        have hT1 : (T [d]).length = 1 := T_len [d]
        simp only [List.length_cons] at hT hxl
        cases y with
        | nil =>
          have hT2 := T_len []
          simp only [List.length_nil] at hT2
          k_steps
          (try dsimp only); (try k_unfold); (try dsimp only)
          rename Fr _ _ _ _ => F9
          rename News _ _ _ _ => N9
          rename _ ∧ AllLt _ _ => hl9
          rw [moved_obj hy] at N9
          exact turn_one (M := (mvTo a b c i j d r 0, mvTo a b c i j d r 1, mvTo a b c i j d r 2)) F9 N9 hRe hD ne ne₂ hR hl9 (mv_yes hij hx hy rfl) rfl rfl rfl
        | cons e r2 =>
          have hT2 := T_len (e :: r2)
          have he : Disc e := hyd e (.head _)
          simp only [List.length_cons] at hT2 hyl
          by_cases hlt : tokOf d < tokOf e
          · k_steps
            (try dsimp only); (try k_unfold); (try dsimp only)
            rename Fr _ _ _ _ => F9
            rename News _ _ _ _ => N9
            rename _ ∧ AllLt _ _ => hl9
            rw [moved_obj hy] at N9
            exact turn_one (M := (mvTo a b c i j d r 0, mvTo a b c i j d r 1, mvTo a b c i j d r 2)) F9 N9 hRe hD ne ne₂ hR hl9 (mv_yes hij hx hy (decide_eq_true hlt)) rfl rfl rfl
          · k_steps
            (try dsimp only); (try k_unfold); (try dsimp only)
            rename Fr _ _ _ _ => F9
            rename News _ _ _ _ => N9
            exact turn_none F9 N9 hRe hD ne ne₂ hR (mv_no hx hy (decide_eq_false hlt)) rfl rfl rfl
    · clear hr F1 N1 hR hD mp mm ne
      rintro m₃ news₃ h tk₃ ⟨its, n, rest, rfl, hD, ne, hR, mp, mm, mo⟩ F2 N2
      change Fr g L' h _ at F2
      change News g L' h _ at N2
      dsimp only
      (try k_unmd)
      k_steps
      (try dsimp only); (try k_unfold); (try dsimp only)
      exact TurnQ.next (news' := (_, listOf its.toArray n) :: rest) F2 N2 (fun p hp q hq => by
        rcases List.mem_cons.mp hq with rfl | hq
        · exact hD p (List.mem_append_right _ hp)
        · exact ne p hp q hq) ⟨its, n, rest, rfl, (fun p hp => hD p (List.mem_append_left _ hp)), hR, mp, mm⟩
  clear hr F1 N1
  rintro m₃ news₃ h tk₃ ⟨its, n, rest, rfl, hD, hR, mp, mm⟩ F2 N2
  change Fr g L' h _ at F2
  change News g L' h _ at N2
  rw [map3 mm mm mp] at F2
  (try dsimp only at F2)
  dsimp only
  (try k_unmd)
  k_steps
  (try dsimp only); (try k_unfold); (try dsimp only)
  rename Fr _ _ _ _ => F9
  rename News _ _ _ _ => N9
  exact FinQ.intro F9 ⟨_, its, n, rest, rfl, fun p hp => ⟨(N9 p hp).2.2, (N9 p hp).1⟩, hR, hD⟩
end
end Mine
namespace Mine
section
theorem reset_MComp : True := by
  first | (walk1; done) | skip
  w_top off
  exact True.intro
section
variable {prog : Program} {w : World} {A : Around} {E : Value → Shared → Prop} {R : Result → Shared → Prop} {s : Shared}
abbrev NoE : Value → Shared → Prop := fun _ _ => False
theorem comp_loop {elt iter : Expr} {gens : List Comprehension} {scope : Scope} {pos : Pos} {depth : Nat} {it acc : Value} {env : Env} {x : Str} {px : Pos} (body : Sem PySem.Fin) (n : Nat) (J : Nat → Shared → Prop)
    (eq : compTurn (.ListComp elt gens scope pos) depth it acc env = (standAt iter.pos >>= fun _ => pyNext it >>= fun r => match r with
      | none => pure (.done .next)
      | some v => letOwnedTupleGo (.Name x px) it v >>= fun _ => assign (.Name x px) env v >>= fun _ => body))
    (turn : ∀ i s', i < n → J i s' → wpAny (model prog w) A (pyNext it) (fun r s₁ => match r with
      | none => False
      | some v => wpAny (model prog w) A (assign (.Name x px) env v) (fun _ s₂ => wpAny (model prog w) A body (fun fin s₃ => fin = .again (.compLoop (.ListComp elt gens scope pos) depth it acc env) ∧ J (i + 1) s₃) NoE s₂) NoE s₁) NoE s')
    (done : ∀ s', J n s' → wpAny (model prog w) A (pyNext it) (fun r s₁ => match r with
      | none => R (.ok .next) s₁
      | some _ => False) NoE s')
    (h0 : J 0 s) : codeAny (model prog w) A (.compLoop (.ListComp elt gens scope pos) depth it acc env) R s := by
  refine codeAny_loop rfl (fun k s' => ∃ i, i ≤ n ∧ k = n - i ∧ J i s') (fun k s' hI => ?_) n ⟨0, Nat.zero_le _, rfl, h0⟩
  show wpAny _ A ((compTurn (.ListComp elt gens scope pos) depth it acc env).onRaise (fun x => do noteFrame x env; theTreesLotGoes x)) _ _ s'
  refine wpAny_noted ?_
  rw [eq]
  obtain ⟨i, hi, rfl, hJ⟩ := hI
  by_cases hlt : i < n
  · refine wpAny_bind (wpAny_standAt (wpAny_bind (wpAny_mono (turn i s' hlt hJ) (fun r s₁ h₁ => ?_) fun _ _ h' => h'.elim)))
    cases r with
    | none => exact h₁.elim
    | some v =>
      refine wpAny_bind (wpAny_of_eq (rfl : letOwnedTupleGo (.Name x px) it v = pure ()) ?_)
      exact wpAny_bind (wpAny_mono h₁ (fun _ s₂ h₂ => wpAny_mono h₂ (fun fin s₃ h₃ => by obtain ⟨rfl, h₃⟩ := h₃; exact ⟨rfl, n - (i + 1), by omega, i + 1, hlt, rfl, h₃⟩) fun _ _ h' => h'.elim) fun _ _ h' => h'.elim)
  · have e : i = n := by omega
    subst e
    refine wpAny_bind (wpAny_standAt (wpAny_bind (wpAny_mono (done s' hJ) (fun r s₁ h₁ => ?_) fun _ _ h' => h'.elim)))
    cases r with
    | none => exact wpAny_pure h₁
    | some v => exact h₁.elim
theorem comp_start1 {elt target iter : Expr} {ifs : List Expr} {g0 : Comprehension} {scope : Scope} {pos : Pos} {it acc : Value} {env : Env}
    (h0 : codeAny (model prog w) A (.compLoop (.ListComp elt [g0, ⟨target, iter, ifs, 0⟩] scope pos) 1 it acc env) R s)
    (h : wpAny (model prog w) A (pyIter it) (fun it' s' => codeAny (model prog w) A (.compLoop (.ListComp elt [g0, ⟨target, iter, ifs, 0⟩] scope pos) 1 it' acc env) R s') NoE s) :
    codeAny (model prog w) A (.compStart (.ListComp elt [g0, ⟨target, iter, ifs, 0⟩] scope pos) 1 it acc env) R s := by
  refine codeAny_of_tree ?_
  show wpAny _ _ ((compStart (.ListComp elt [g0, ⟨target, iter, ifs, 0⟩] scope pos) 1 it acc env).onRaise (fun x => do noteFrame x env; standAt theWindowsPlace)) _ _ s
  refine wpAny_notedAt ?_
  unfold compStart
  show wpAny _ _ (ask >>= _) _ _ s
  refine wpAny_bind (wpAny_askSetting (wpAny_ite ?_))
  split
  · first
      | exact wpAny_bind (wpAny_pure (wpAny_pure (And.intro rfl h0)))
      | exact wpAny_pure (And.intro rfl h0)
  · refine wpAny_bind (wpAny_rule ?_)
    show wpAny _ _ (standAt iter.pos >>= _) _ _ s
    exact wpAny_bind (wpAny_standAt (wpAny_bind (wpAny_mono h (fun it' s' h' => wpAny_pure (And.intro rfl h')) fun _ _ x => x.elim)))
theorem turn_two0 (elt t0 iter0 t1 iter1 : Expr) (scope : Scope) (pos : Pos) (it acc : Value) (env : Env) :
    compTurn (.ListComp elt [⟨t0, iter0, [], 0⟩, ⟨t1, iter1, [], 0⟩] scope pos) 0 it acc env = (standAt iter0.pos >>= fun _ => pyNext it >>= fun r => match r with
      | none => pure (.done .next)
      | some v => letOwnedTupleGo t0 it v >>= fun _ => assign t0 env v >>= fun _ =>
        (eval iter1 env >>= fun x => standAt iter1.pos >>= fun _ => foldedSetIterable iter1 env x >>= fun x => holding [x] (pyIter x) >>= fun it' => runOwn (.compStart (.ListComp elt [⟨t0, iter0, [], 0⟩, ⟨t1, iter1, [], 0⟩] scope pos) 1 it' acc env) env >>= fun _ =>
          again (.compLoop (.ListComp elt [⟨t0, iter0, [], 0⟩, ⟨t1, iter1, [], 0⟩] scope pos) 0 it acc env))) := by rfl
theorem turn_two1 (elt t0 iter0 t1 iter1 : Expr) (scope : Scope) (pos : Pos) (it acc : Value) (env : Env) :
    compTurn (.ListComp elt [⟨t0, iter0, [], 0⟩, ⟨t1, iter1, [], 0⟩] scope pos) 1 it acc env = (standAt iter1.pos >>= fun _ => pyNext it >>= fun r => match r with
      | none => pure (.done .next)
      | some v => letOwnedTupleGo t1 it v >>= fun _ => assign t1 env v >>= fun _ =>
        ((eval elt env >>= fun x => call (.builtin "list.append") [acc, x] >>= fun _ => pure ()) : Sem Unit) >>= fun _ =>
          again (.compLoop (.ListComp elt [⟨t0, iter0, [], 0⟩, ⟨t1, iter1, [], 0⟩] scope pos) 1 it acc env)) := by rfl
theorem turn_one0 (elt t0 iter0 : Expr) (scope : Scope) (pos : Pos) (it acc : Value) (env : Env) :
    compTurn (.ListComp elt [⟨t0, iter0, [], 0⟩] scope pos) 0 it acc env = (standAt iter0.pos >>= fun _ => pyNext it >>= fun r => match r with
      | none => pure (.done .next)
      | some v => letOwnedTupleGo t0 it v >>= fun _ => assign t0 env v >>= fun _ =>
        ((eval elt env >>= fun x => call (.builtin "list.append") [acc, x] >>= fun _ => pure ()) : Sem Unit) >>= fun _ =>
          again (.compLoop (.ListComp elt [⟨t0, iter0, [], 0⟩] scope pos) 0 it acc env)) := by rfl
end
end
end Mine
namespace Mine
section
theorem reset_MComp2 : True := by
  first | (walk1; done) | skip
  w_top off
  exact True.intro
abbrev tupOf (p : Int × Int) (t u : Tok) : Obj := { cls := .type "tuple", data := .seq #[.int p.1 t, .int p.2 u] }
/-- the tuples of a list of pairs lie in the heap, off the addresses told -/
def Tp (B : Heap) (ex : List Addr) (h : Heap) (its : List Value) (ps : List (Int × Int)) : Prop :=
  Paired (fun (p : Int × Int) v => ∃ x t u, v = Value.ref x ∧ B.get? x = none ∧ x ∉ ex ∧ h.get? x = some (tupOf p t u)) ps its
theorem Paired.mono {α β : Type} {F G : α → β → Prop} (h : ∀ a b, F a b → G a b) : ∀ {l : List α} {l' : List β}, PySem.Paired F l l' → PySem.Paired G l l'
  | _, _, .nil => .nil
  | _, _, .cons x r => .cons (h _ _ x) (Paired.mono h r)
theorem Tp.mono {B : Heap} {ex ex' : List Addr} {h h' : Heap} {its : List Value} {ps : List (Int × Int)} (x : Tp B ex h its ps) (k : ∀ b o, B.get? b = none → b ∉ ex → h.get? b = some o → h'.get? b = some o ∧ b ∉ ex') : Tp B ex' h' its ps :=
  Paired.mono (fun p v ⟨y, t, u, e, f, g, o⟩ => ⟨y, t, u, e, f, (k y _ f g o).2, (k y _ f g o).1⟩) x
theorem Tp.snoc {B : Heap} {ex : List Addr} {h : Heap} {its : List Value} {ps : List (Int × Int)} {p : Int × Int} {x : Addr} {t u : Tok} (a : Tp B ex h its ps) (f : B.get? x = none) (g : x ∉ ex) (o : h.get? x = some (tupOf p t u)) : Tp B ex h (its ++ [.ref x]) (ps ++ [p]) :=
  PySem.Paired.snoc a ⟨x, t, u, rfl, f, g, o⟩
def prs (X : Nat → List Nat) : Nat → List (Int × Int)
  | 0 => []
  | n + 1 => prs X n ++ (X n).map fun d => (tokOf d, (n : Int))

theorem prs_len {X : Nat → List Nat} (hX : ∀ k, k < 3 → (X k).length ≤ 4) : ∀ n, n ≤ 3 → (prs X n).length ≤ 4 * n
  | 0, _ => by simp [prs]
  | n + 1, h => by
    have h1 := prs_len hX n (by omega)
    have h2 := hX n (by omega)
    simp only [prs, List.length_append, List.length_map]
    omega
theorem nm3 {b x y z : Addr} (h : b ∉ [x, y, z]) : b ≠ x ∧ b ≠ y ∧ b ≠ z :=
  ⟨fun e => h (e ▸ .head _), fun e => h (e ▸ .tail _ (.head _)), fun e => h (e ▸ .tail _ (.tail _ (.head _)))⟩
theorem nm2 {b x y : Addr} (h : b ∉ [x, y]) : b ≠ x ∧ b ≠ y := ⟨fun e => h (e ▸ .head _), fun e => h (e ▸ .tail _ (.head _))⟩
theorem mn3 {b x y z : Addr} (h1 : b ≠ x) (h2 : b ≠ y) (h3 : b ≠ z) : b ∉ [x, y, z] := by simp [h1, h2, h3]
theorem mn2 {b x y : Addr} (h1 : b ≠ x) (h2 : b ≠ y) : b ∉ [x, y] := by simp [h1, h2]
theorem off3 {b D C J : Nat} (h : b < D) (h1 : D < C) (h2 : C < J) : (b : Addr) ∉ [(J : Addr), D, C] :=
  mn3 (Nat.ne_of_lt (Nat.lt_trans h (Nat.lt_trans h1 h2))) (Nat.ne_of_lt h) (Nat.ne_of_lt (Nat.lt_trans h h1))
theorem pyIter_str_live {prog : Program} {w : World} {A : Around} {E : Value → Shared → Prop} {s : Shared} {x : Str} {t : Tok} {Q : Value → Shared → Prop}
    (hQ : ∀ (o : Obj) (St : Nat → Heap → Prop), (∀ A' : Around, A'.handled = none → Walks prog w A' s.heap.objs.size [s.heap.objs.size] [s.heap.objs.size] x.cps.size (SignAt x) St) → (∀ i h, St i h → ∃ o, h.get? s.heap.objs.size = some o) → St 0 (s.heap.push o) →
      Q (.ref s.heap.objs.size) { s with heap := s.heap.push o }) : wpAny (model prog w) A (pyIter (.str x t)) Q E s := by
  cases ha : x.cps.all (· < 128)
  · exact wpAny_pyIter_wide ha (hQ _ _ (fun A' hA => Walks.strWide hA _ x t) (fun _ _ ⟨o, ho, _⟩ => ⟨o, ho⟩) ⟨_, Heap.get?_push_size _ rfl, rfl, rfl⟩)
  · exact wpAny_pyIter_ascii ha (hQ _ _ (fun A' hA => Walks.strAscii hA _ x t) (fun _ _ ⟨o, ho, _⟩ => ⟨o, ho⟩) ⟨_, Heap.get?_push_size _ rfl, rfl, rfl⟩)
section
variable {prog : Program} {w : World} {A : Around} {E : Value → Shared → Prop} {env : Env}
theorem comp_two {elt iter0 iter1 : Expr} {x0 x1 : Str} {p0 p1 : Pos} {scope : Scope} {cl : List (Str × Addr)} {pos : Pos} {s₂ : Shared} {I : Nat} {P : Nat → Value → Prop} {St : Nat → Heap → Prop} (X : Nat → List Nat) {Q : Value → Shared → Prop}
    (hh : A.handled = none) (W : Walks prog w A I [I] [I] 3 P St) (hP : ∀ i v, P i v → ∃ t, v = .int i t) (live' : ∀ i h, St i h → ∃ o, h.get? I = some o) (hst : St 0 s₂.heap) (hI : @LT.lt Nat _ I s₂.heap.objs.size)
    (hcell : ∀ y ∈ scope.names, y.2 ≠ .cell) (hkind : scope.kind = .function) (hx0 : scope.names.lookup x0 = some .local) (hx1 : scope.names.lookup x1 = some .local) (h01 : x0 ≠ x1) (hX : ∀ k, k < 3 → (X k).length ≤ 4) (hXd : ∀ k, k < 3 → ∀ d ∈ X k, Disc d)
    (hs1 : ∀ C x, foldedSetIterable iter1 (compEnvC scope cl C env) x = pure x)
    (hiter : ∀ C (k : Nat) t s' m', k < 3 → s'.heap.Ns C m' → m' x0 = some (.int k t) → (∀ b o, b ≠ I → s₂.heap.get? b = some o → s'.heap.get? b = some o) → ∀ Q' : Value → Shared → Prop, (∀ u, Q' (.str (T (X k)) u) s') → wpAny (model prog w) A (eval iter1 (compEnvC scope cl C env)) Q' NoE s')
    (helt : ∀ C (k : Nat) t d u s' m', k < 3 → Disc d → s'.heap.Ns C m' → m' x0 = some (.int k t) → m' x1 = some (.str (T [d]) u) → (∀ b o, b ≠ I → s₂.heap.get? b = some o → s'.heap.get? b = some o) →
      wpAny (model prog w) A (eval elt (compEnvC scope cl C env)) (fun y s'' => ∃ x h'' tk'' t' u', y = .ref x ∧ s'' = { s' with heap := h'', toks := tk'' } ∧ Sub s'.heap h'' ∧ s'.heap.get? x = none ∧ h''.get? x = some (tupOf (tokOf d, (k : Int)) t' u')) NoE s')
    (hQ : ∀ D C its n h' tk m', s₂.heap.get? D = none → s₂.heap.get? C = none → D ≠ C → h'.Ns C m' → h'.get? D = some (listOf its.toArray n) → Tp s₂.heap [D, C] h' its (prs X 3) → (∀ b o, b ≠ I → s₂.heap.get? b = some o → h'.get? b = some o) →
      ∀ h'', Heap.SameBut C h' h'' → Q (.ref D) { s₂ with heap := h'', toks := tk }) :
    wpAny (model prog w) A (newList []) (fun acc s₃ => wpAny (model prog w) A (newFunctionEnv scope env.globals cl [] env.qual none .none (some env)) (fun cenv s₄ =>
      codeAny (model prog w) A (.compStart (.ListComp elt [⟨.Name x0 p0, iter0, [], 0⟩, ⟨.Name x1 p1, iter1, [], 0⟩] scope pos) 0 (.ref I) acc { cenv with scope := relabel scope env }) (compPost (model prog w) A E none Q acc cenv.locals) s₄) E s₃) E s₂ := by
  refine wpAny_newObj_type (wpAny_newFunctionEnv hcell (by intro y hy; simp at hy) (fun h₁ hns₁ hsb₁ => ?_) hkind)
  dsimp only at hns₁ hsb₁ ⊢
  generalize hH2 : s₂.heap.push { cls := .type "list", dict := none, data := .seq ([] : List Value).toArray } = H2 at hns₁ hsb₁ ⊢
  have hC : H2.objs.size = s₂.heap.objs.size + 1 := by rw [← hH2, Heap.size_push]
  obtain ⟨D, hD⟩ : ∃ D : Nat, D = s₂.heap.objs.size := ⟨_, rfl⟩
  obtain ⟨C, hCe⟩ : ∃ C : Nat, C = H2.objs.size := ⟨_, rfl⟩
  rw [← hCe] at hns₁ hsb₁ hC ⊢
  have ltDC : @LT.lt Nat _ D C := by omega
  have hI' : @LT.lt Nat _ I D := by omega
  have hDC : D ≠ C := Nat.ne_of_lt ltDC
  have hID : I ≠ D := Nat.ne_of_lt hI'
  have hIC : I ≠ C := Nat.ne_of_lt (Nat.lt_trans hI' ltDC)
  have offC : ∀ b : Nat, @LT.lt Nat _ b D → b ≠ C := fun b h => Nat.ne_of_lt (Nat.lt_trans h ltDC)
  have ltD : ∀ (b : Nat) o, s₂.heap.get? b = some o → @LT.lt Nat _ b D := fun b o e => hD ▸ Heap.lt_size e
  have fresh : ∀ a : Nat, D ≤ a → s₂.heap.get? a = none := fun a ha => by
    cases e : s₂.heap.get? a with
    | none => rfl
    | some o' => exact absurd (ltD a o' e) (Nat.not_lt.mpr ha)
  have old : ∀ b o, s₂.heap.get? b = some o → h₁.get? b = some o := fun b o e => hsb₁.extBut b o (offC b (ltD b o e)) (Heap.get?_push_of_some _ (hH2 ▸ Heap.get?_push_of_some _ e))
  obtain ⟨oI0, hIo⟩ := live' _ _ hst
  have liveI := live'
  have hacc : h₁.get? D = some (listOf #[] 0) := hsb₁.extBut _ _ hDC (Heap.get?_push_of_some _ (hH2 ▸ hD ▸ Heap.get?_push_size _ rfl))
  have hst₁ : St 0 h₁ := W.frame _ _ _ hst fun b _ o e => old b o e
  have hk0 : (compEnvC scope cl C env).kindOf x0 = some .local := lookup_relabel_local hx0
  have hk1 : (compEnvC scope cl C env).kindOf x1 = some .local := lookup_relabel_local hx1
  have hp : ((compEnvC scope cl C env).scope.kind == .class || ((compEnvC scope cl C env).scope.kind == .module && (compEnvC scope cl C env).locals != (compEnvC scope cl C env).globals)) = false := by simp [compEnvC, relabel, hkind]
  have loop : ∀ s₃ : Shared, s₃ = { s₂ with heap := h₁, toks := s₂.toks + ([] : List (Str × Value)).length } →
      codeAny (model prog w) A (.compLoop (.ListComp elt [⟨.Name x0 p0, iter0, [], 0⟩, ⟨.Name x1 p1, iter1, [], 0⟩] scope pos) 0 (.ref I) (.ref D) (compEnvC scope cl C env)) (compPost (model prog w) A E none Q (.ref D) C) s₃ := by
    rintro s₃ rfl
    refine comp_loop (iter := iter0) (x := x0) (px := p0) _ 3 (fun i s' => ∃ h tk m its n, s' = { s₂ with heap := h, toks := tk } ∧ St i h ∧ h.Ns C m ∧ h.get? D = some (listOf its.toArray n) ∧ Tp s₂.heap [D, C] h its (prs X i) ∧ (∀ b o, b ≠ I → s₂.heap.get? b = some o → h.get? b = some o))
      (turn_two0 ..) ?_ ?_ ⟨h₁, _, _, [], 0, rfl, hst₁, hns₁, hacc, .nil, fun b o _ e => old b o e⟩
    · rintro i s' hi ⟨h, tk, m, its, n, rfl, st, ns, hd, tp, kp⟩
      refine W.item i _ _ _ hi st fun v h2 tk2 hv st2 k2 => ?_
      obtain ⟨t, rfl⟩ := hP i v hv
      have k2' : ∀ b o, b ≠ I → h.get? b = some o → h2.get? b = some o := fun b o hb e => k2 b o (fun hm => hb (List.mem_singleton.mp hm)) e
      refine wpAny_assign_Name (wpAny_storeName_local hk0 (ns.at' fun o e => k2' C o (Ne.symm hIC) e) (fun h3 ns3 sb3 => ?_) hp)
      change h3.Ns C _ at ns3
      change Heap.SameBut C h2 h3 at sb3
      have kp3 : ∀ b o, b ≠ I → s₂.heap.get? b = some o → h3.get? b = some o := fun b o hb e => sb3.extBut b o (offC b (ltD b o e)) (k2' b o hb (kp b o hb e))
      have hd3 : h3.get? D = some (listOf its.toArray n) := sb3.extBut _ _ hDC (k2' _ _ (Ne.symm hID) hd)
      have st3 : St (i + 1) h3 := W.frame _ _ _ st2 fun b hb o e => sb3.extBut b o (by rw [List.mem_singleton.mp hb]; exact hIC) e
      refine wpAny_bind (hiter C i t _ _ hi ns3 (by simp) kp3 _ fun u => ?_)
      refine wpAny_bind (wpAny_standAt (wpAny_bind (wpAny_of_eq (hs1 C _) (wpAny_bind (wpAny_holding (pyIter_str_live fun oI St' W' live st' => ?_))))))
      dsimp only at W' live st' ⊢
      obtain ⟨J, hJ⟩ : ∃ J : Nat, J = h3.objs.size := ⟨_, rfl⟩
      rw [← hJ] at W' live ⊢
      have hCJ : C < J := hJ ▸ ns3.lt
      have nCJ : C ≠ J := Nat.ne_of_lt hCJ
      have nDJ : D ≠ J := Nat.ne_of_lt (Nat.lt_trans ltDC hCJ)
      have hx : (T (X i)).cps.size = (X i).length := T_len (X i)
      rw [hx] at W'
      refine wpAny_bind (wpAny_runOwn ?_)
      show codeAny _ A _ _ _
      have inner : codeAny (model prog w) A (.compLoop (.ListComp elt [⟨.Name x0 p0, iter0, [], 0⟩, ⟨.Name x1 p1, iter1, [], 0⟩] scope pos) 1 (.ref J) (.ref D) (compEnvC scope cl C env))
          (fun r s' => r = .ok .next ∧ ∃ h tk m its n, s' = { s₂ with heap := h, toks := tk } ∧ h.Ns C m ∧ h.get? D = some (listOf its.toArray n) ∧ Tp s₂.heap [D, C, J] h its (prs X i ++ (X i).map fun d => (tokOf d, (i : Int))) ∧ (∀ b o, b ∉ [J, D, C] → (h3.push oI).get? b = some o → h.get? b = some o))
          { s₂ with heap := h3.push oI, toks := tk2 + 1 } := by
        refine comp_loop (iter := iter1) (x := x1) (px := p1) _ (X i).length (fun j s' => ∃ h tk m its n, s' = { s₂ with heap := h, toks := tk } ∧ St' j h ∧ h.Ns C m ∧ m x0 = some (.int i t) ∧ h.get? D = some (listOf its.toArray n) ∧ Tp s₂.heap [D, C, J] h its (prs X i ++ ((X i).take j).map fun d => (tokOf d, (i : Int))) ∧ (∀ b o, b ∉ [J, D, C] → (h3.push oI).get? b = some o → h.get? b = some o))
          (turn_two1 ..) ?_ ?_ ⟨h3.push oI, _, _, its, n, rfl, st', ns3.push _, by simp, Heap.get?_push_of_some _ hd3, ?_, fun _ _ _ e => e⟩
        · rintro j s' hj ⟨h, tk, m, its, n, rfl, st, ns, mx, hd, tp, kp⟩
          have hlen : its.length ≤ 100 := by
            have e1 := tp.length
            have e2 := prs_len hX i (by omega)
            have e3 := hX i hi
            simp only [List.length_append, List.length_map, List.length_take] at e1
            omega
          refine (W' A hh).item j _ _ _ hj st fun v h4 tk4 hv st4 k4 => ?_
          obtain ⟨c, uc, hc, rfl⟩ := hv
          have hc' : (X i)[j]? = some c := by simpa [T] using hc
          have hcd : Disc c := hXd i hi c (List.mem_of_getElem? hc')
          have k4' : ∀ b o, b ≠ J → h.get? b = some o → h4.get? b = some o := fun b o hb e => k4 b o (fun hm => hb (List.mem_singleton.mp hm)) e
          refine wpAny_assign_Name (wpAny_storeName_local hk1 (ns.at' fun o e => k4' C o nCJ e) (fun h5 ns5 sb5 => ?_) hp)
          change h5.Ns C _ at ns5
          change Heap.SameBut C h4 h5 at sb5
          have kp5 : ∀ b o, b ∉ [J, D, C] → (h3.push oI).get? b = some o → h5.get? b = some o := fun b o hb e => by
            exact sb5.extBut b o (nm3 hb).2.2 (k4' b o (nm3 hb).1 (kp b o hb e))
          have kpB : ∀ b o, b ≠ I → s₂.heap.get? b = some o → h5.get? b = some o := fun b o hb e => by
            have hlt := ltD b o e
            exact kp5 b o (off3 hlt ltDC hCJ) (Heap.get?_push_of_some _ (kp3 b o hb e))
          refine wpAny_bind (wpAny_bind (wpAny_mono (helt C i t c uc _ _ hi hcd ns5 (by simp [h01, mx]) (by simp; rfl) kpB) (fun y s'' hy => ?_) fun _ _ x => x))
          obtain ⟨x, h6, tk6, t', u', rfl, rfl, sub, fr, ob⟩ := hy
          dsimp only at sub fr
          have hd6 : h6.PlainList D its.toArray := ⟨n, sub _ _ (sb5.extBut _ _ hDC (k4' _ _ nDJ hd))⟩
          refine wpAny_bind (wpAny_list_append_plain (hsz := by rw [List.size_toArray, PySem.sizeLine_eq]; omega) hd6 fun h7 hl7 sb7 => ?_)
          obtain ⟨n7, hl7⟩ := hl7
          have xne : x ≠ D ∧ x ≠ C ∧ x ≠ J := by
            refine ⟨?_, ?_, ?_⟩
            · intro e; rw [e] at fr; have := sb5.extBut _ _ hDC (k4' _ _ nDJ hd); rw [fr] at this; cases this
            · intro e; rw [e] at fr; obtain ⟨o, _, _, ho, _⟩ := ns5; rw [fr] at ho; cases ho
            · intro e; rw [e] at fr
              obtain ⟨o, ho⟩ := live _ _ st4
              have := sb5.extBut J o nCJ.symm ho
              rw [fr] at this; cases this
          have xB : s₂.heap.get? x = none := by
            cases q : s₂.heap.get? x with
            | none => rfl
            | some o =>
              by_cases hxI : x = I
              · rw [hxI] at fr
                obtain ⟨oI, hoI⟩ := liveI _ _ st3
                have := kp5 I oI (off3 hI' ltDC hCJ) (Heap.get?_push_of_some _ hoI)
                rw [fr] at this; cases this
              · have := kpB x o hxI q; rw [fr] at this; cases this
          refine wpAny_pure (wpAny_pure ⟨rfl, h7, _, _, its ++ [.ref x], n7, rfl, ?_, (ns5.keeps sub).sameBut sb7 (Ne.symm hDC), (by simp [h01, mx]), by simpa using hl7, ?_, ?_⟩)
          · exact (W' A hh).frame _ _ _ st4 fun b hb o e => by
              rw [List.mem_singleton.mp hb] at e ⊢
              exact sb7.extBut J o nDJ.symm (sub _ _ (sb5.extBut J o nCJ.symm e))
          · have tp7 : Tp s₂.heap [D, C, J] h7 its (prs X i ++ ((X i).take j).map fun d => (tokOf d, (i : Int))) := tp.mono fun b o _ hb e => ⟨sb7.extBut b o (nm3 hb).1 (sub _ _ (sb5.extBut b o (nm3 hb).2.1 (k4' b o (nm3 hb).2.2 e))), hb⟩
            have e1 : (X i).take (j + 1) = (X i).take j ++ [c] := by rw [List.take_add_one, hc']; rfl
            rw [e1, List.map_append, ← List.append_assoc]
            exact tp7.snoc xB (mn3 xne.1 xne.2.1 xne.2.2) (sb7.extBut x _ xne.1 ob)
          · intro b o hb e
            exact sb7.extBut b o (nm3 hb).2.1 (sub _ _ (kp5 b o hb e))
        · rintro s' ⟨h, tk, m, its, n, rfl, st, ns, mx, hd, tp, kp⟩
          refine (W' A hh).done _ _ _ st fun h4 tk4 k4 => ?_
          have k4' : ∀ b o, b ≠ J → h.get? b = some o → h4.get? b = some o := fun b o hb e => k4 b o (fun hm => hb (List.mem_singleton.mp hm)) e
          rw [List.take_length] at tp
          refine ⟨rfl, h4, _, m, its, n, rfl, ns.at' fun o e => k4' C o nCJ e, k4' _ _ nDJ hd, tp.mono fun b o _ hb e => ?_, fun b o hb e => ?_⟩
          · exact ⟨k4' b o (nm3 hb).2.2 e, hb⟩
          · exact k4' b o (nm3 hb).1 (kp b o hb e)
        · rw [List.take_zero, List.map_nil, List.append_nil]
          refine tp.mono fun b o hb0 hb e => ?_
          have hbI : b ≠ I := fun e => by rw [e, hIo] at hb0; cases hb0
          have e3 : h3.get? b = some o := sb3.extBut b o (nm2 hb).2 (k2' b o hbI e)
          exact ⟨Heap.get?_push_of_some _ e3, mn3 (nm2 hb).1 (nm2 hb).2 (by rw [hJ]; exact Nat.ne_of_lt (Heap.lt_size e3))⟩
      refine codeAny_mono (comp_start1 inner ((W' A hh).self 0 _ _ _ st' inner)) fun r s' hr => ?_
      obtain ⟨rfl, h, tk, m, its, n, rfl, ns, hd, tp, kp⟩ := hr
      refine wpAny_pure ⟨rfl, h, tk, m, its, n, rfl, ?_, ns, hd, tp.mono fun b o _ hb e => ?_, fun b o hb e => ?_⟩
      · refine W.frame _ _ _ st3 fun b hb o e => ?_
        rw [List.mem_singleton.mp hb] at e ⊢
        exact kp I o (off3 hI' ltDC hCJ) (Heap.get?_push_of_some _ e)
      · exact ⟨e, mn2 (nm3 hb).1 (nm3 hb).2.1⟩
      · have hlt := ltD b o e
        exact kp b o (off3 hlt ltDC hCJ) (Heap.get?_push_of_some _ (kp3 b o hb e))
    · rintro s' ⟨h, tk, m, its, n, rfl, st, ns, hd, tp, kp⟩
      refine W.done _ _ _ st fun h2 tk2 k2 => ?_
      have k2' : ∀ b o, b ≠ I → h.get? b = some o → h2.get? b = some o := fun b o hb e => k2 b o (fun hm => hb (List.mem_singleton.mp hm)) e
      refine ⟨m, ns.at' fun o e => k2' C o (Ne.symm hIC) e, fun h'' hs'' => ?_⟩
      refine hQ D C its n h2 tk2 m (fresh D (Nat.le_refl _)) (fresh C (by omega)) hDC (ns.at' fun o e => k2' C o (Ne.symm hIC) e) (k2' _ _ (Ne.symm hID) hd) (tp.mono fun b o hb0 hb e => ⟨k2' b o ?_ e, hb⟩) (fun b o hb e => k2' b o hb (kp b o hb e)) h'' hs''
      exact fun e => by rw [e, hIo] at hb0; cases hb0
  subst hD
  exact codeAny_compStart_list (loop _ rfl) (W.self 0 _ _ _ hst₁ (loop _ rfl))
end
end
end Mine
namespace Mine
section
theorem reset_MSort : True := by
  first | (walk1; done) | skip
  w_top off
  exact True.intro
noncomputable def kasRun {α : Type} : KasT α → (Nat → Nat → Bool) → α
  | .ret a, _ => a
  | .ask i j k, lt => kasRun (k (lt i j)) lt
noncomputable def kasIn {α : Type} (n : Nat) : KasT α → Bool
  | .ret _ => true
  | .ask i j k => decide (i < n ∧ j < n ∧ i ≠ j) && kasIn n (k true) && kasIn n (k false)
theorem kasIn_k {α : Type} {n i j : Nat} {k : Bool → KasT α} (h : kasIn n (.ask i j k) = true) : (i < n ∧ j < n ∧ i ≠ j) ∧ ∀ b, kasIn n (k b) = true := by
  simp only [kasIn, Bool.and_eq_true, decide_eq_true_eq] at h
  exact ⟨h.1.1, fun b => by cases b; exact h.2; exact h.1.2⟩
theorem kas_pure {α : Type} {n : Nat} {cmp : Nat → Nat → (Bool → Shared → Prop) → Shared → Prop} {lt : Nat → Nat → Bool} {s : Shared} {Q : α → Shared → Prop} (h : ∀ i j C, i < n → j < n → i ≠ j → C (lt i j) s → cmp i j C s) : ∀ t : KasT α, kasIn n t = true → Q (kasRun t lt) s → t.kasWp cmp Q s
  | .ret _, _, q => q
  | .ask i j k, hi, q => h i j _ (kasIn_k hi).1.1 (kasIn_k hi).1.2.1 (kasIn_k hi).1.2.2 (kas_pure h (k (lt i j)) ((kasIn_k hi).2 _) q)
theorem kasRun_congr {α : Type} {n : Nat} {lt lt' : Nat → Nat → Bool} (h : ∀ i j, i < n → j < n → lt i j = lt' i j) : ∀ t : KasT α, kasIn n t = true → kasRun t lt = kasRun t lt'
  | .ret _, _ => rfl
  | .ask i j k, hi => by
    show kasRun (k (lt i j)) lt = kasRun (k (lt' i j)) lt'
    rw [h i j (kasIn_k hi).1.1 (kasIn_k hi).1.2.1]
    exact kasRun_congr h _ ((kasIn_k hi).2 _)
noncomputable def pairB (lt : Nat → Nat → Bool) : List Nat → Bool
  | [] => true
  | a :: r => r.all (fun b => lt a b) && pairB lt r
theorem pairB_spec {lt : Nat → Nat → Bool} : ∀ {l : List Nat}, pairB lt l = true → l.Pairwise fun a b => lt a b = true
  | [], _ => .nil
  | a :: r, h => by
    simp only [pairB, Bool.and_eq_true, List.all_eq_true] at h
    exact .cons h.1 (pairB_spec h.2)
noncomputable def transB (n : Nat) (lt : Nat → Nat → Bool) : Bool := (List.range n).all fun i => (List.range n).all fun j => (List.range n).all fun k => !(lt i j && lt j k) || lt i k
noncomputable def goodB (n : Nat) (lt : Nat → Nat → Bool) : Bool := !(transB n lt) || ((kasRun (kas_sort n) lt).toList.isPerm (List.range n) && pairB lt (kasRun (kas_sort n) lt).toList)
noncomputable def lt3 (a b c : Bool) (i j : Nat) : Bool := match i, j with
  | 0, 1 => a
  | 1, 0 => !a
  | 0, 2 => b
  | 2, 0 => !b
  | 1, 2 => c
  | 2, 1 => !c
  | _, _ => false
noncomputable def lt4 (a b c d e f : Bool) (i j : Nat) : Bool := match i, j with
  | 0, 1 => a
  | 1, 0 => !a
  | 0, 2 => b
  | 2, 0 => !b
  | 1, 2 => c
  | 2, 1 => !c
  | 0, 3 => d
  | 3, 0 => !d
  | 1, 3 => e
  | 3, 1 => !e
  | 2, 3 => f
  | 3, 2 => !f
  | _, _ => false
theorem in3 : kasIn 3 (kas_sort 3) = true := by decide +kernel
theorem in4 : kasIn 4 (kas_sort 4) = true := by decide +kernel
theorem good3 : ∀ a b c : Bool, goodB 3 (lt3 a b c) = true := by decide +kernel
theorem good4 : ∀ a b c d e f : Bool, goodB 4 (lt4 a b c d e f) = true := by decide +kernel
/-- the order of distinct numbers -/
noncomputable def ltK (ks : List Int) (i j : Nat) : Bool := decide (ks.getD i 0 < ks.getD j 0)
theorem transB_of {n : Nat} {lt : Nat → Nat → Bool} (h : ∀ i j k, i < n → j < n → k < n → lt i j = true → lt j k = true → lt i k = true) : transB n lt = true := by
  unfold transB
  simp only [List.all_eq_true, List.mem_range]
  intro i hi j hj k hk
  cases h1 : lt i j with
  | false => simp
  | true =>
    cases h2 : lt j k with
    | false => simp
    | true => simp [h i j k hi hj hk h1 h2]
theorem sort_good {n : Nat} (hn : n = 3 ∨ n = 4) (ks : List Int) (hd : ∀ i j, i < n → j < n → i ≠ j → ks.getD i 0 ≠ ks.getD j 0) :
    kasIn n (kas_sort n) = true ∧ (kasRun (kas_sort n) (ltK ks)).toList.Perm (List.range n) ∧ (kasRun (kas_sort n) (ltK ks)).toList.Pairwise fun i j => ltK ks i j = true := by
  have fin : ∀ lt', (∀ i j, i < n → j < n → ltK ks i j = lt' i j) → kasIn n (kas_sort n) = true → goodB n lt' = true → kasIn n (kas_sort n) = true ∧ (kasRun (kas_sort n) (ltK ks)).toList.Perm (List.range n) ∧ (kasRun (kas_sort n) (ltK ks)).toList.Pairwise fun i j => ltK ks i j = true := by
    intro lt' he hi hg
    have tr : transB n lt' = true := transB_of fun i j k a b c h1 h2 => by
      rw [← he i j a b] at h1; rw [← he j k b c] at h2; rw [← he i k a c]
      simp only [ltK, decide_eq_true_eq] at *
      omega
    have hr := kasRun_congr he (kas_sort n) hi
    rw [goodB, tr] at hg
    simp only [Bool.not_true, Bool.false_or, Bool.and_eq_true] at hg
    rw [hr]
    have hp : (kasRun (kas_sort n) lt').toList.Perm (List.range n) := List.isPerm_iff.mp hg.1
    refine ⟨hi, hp, ?_⟩
    refine List.Pairwise.imp_of_mem ?_ (pairB_spec hg.2)
    intro a b ha hb hab
    rw [he a b (by simpa using hp.mem_iff.mp ha) (by simpa using hp.mem_iff.mp hb)]
    exact hab
  have flip : ∀ i j, i < n → j < n → i ≠ j → ltK ks i j = !ltK ks j i := by
    intro i j hi hj hij
    have := hd i j hi hj hij
    unfold ltK
    by_cases h1 : ks.getD i 0 < ks.getD j 0
    · rw [decide_eq_true h1, decide_eq_false (by omega)]; rfl
    · rw [decide_eq_false h1, decide_eq_true (by omega)]; rfl
  have self : ∀ i, ltK ks i i = false := fun i => by unfold ltK; exact decide_eq_false (by omega)
  rcases hn with rfl | rfl
  · refine fin (lt3 (ltK ks 0 1) (ltK ks 0 2) (ltK ks 1 2)) ?_ in3 (good3 _ _ _)
    intro i j hi hj
    have hi' : i = 0 ∨ i = 1 ∨ i = 2 := by omega
    have hj' : j = 0 ∨ j = 1 ∨ j = 2 := by omega
    rcases hi' with rfl | rfl | rfl <;> rcases hj' with rfl | rfl | rfl <;> first | exact self _ | rfl | exact flip _ _ (by omega) (by omega) (by omega)
  · refine fin (lt4 (ltK ks 0 1) (ltK ks 0 2) (ltK ks 1 2) (ltK ks 0 3) (ltK ks 1 3) (ltK ks 2 3)) ?_ in4 (good4 _ _ _ _ _ _)
    intro i j hi hj
    have hi' : i = 0 ∨ i = 1 ∨ i = 2 ∨ i = 3 := by omega
    have hj' : j = 0 ∨ j = 1 ∨ j = 2 ∨ j = 3 := by omega
    rcases hi' with rfl | rfl | rfl | rfl <;> rcases hj' with rfl | rfl | rfl | rfl <;> first | exact self _ | rfl | exact flip _ _ (by omega) (by omega) (by omega)
abbrev InL (news : List (Addr × Obj)) (p : Int × Int) (v : Value) : Prop := ∃ x t u, v = Value.ref x ∧ (x, tupOf p t u) ∈ news
theorem paired_get {α β : Type} {F : α → β → Prop} (da : α) (db : β) : ∀ {l : List α} {l' : List β}, PySem.Paired F l l' → ∀ i, i < l.length → F (l.getD i da) (l'.getD i db)
  | _, _, .nil, i, h => absurd h (Nat.not_lt_zero _)
  | _, _, .cons x _, 0, _ => x
  | _, _, .cons _ r, i + 1, h => paired_get da db r i (Nat.lt_of_succ_lt_succ h)
theorem paired_map {α β : Type} {F : α → β → Prop} {f : Nat → α} {g : Nat → β} : ∀ (l : List Nat), (∀ i ∈ l, F (f i) (g i)) → PySem.Paired F (l.map f) (l.map g)
  | [], _ => .nil
  | i :: r, h => .cons (h i (.head _)) (paired_map r fun j hj => h j (.tail _ hj))
theorem map_range_getD {α : Type} (d : α) (l : List α) : (List.range l.length).map (fun i => l.getD i d) = l := by
  apply List.ext_getElem
  · simp
  · intro i h1 h2
    simp at h1 ⊢
    simp [h1]
theorem kat_tups_of {h : Heap} {news : List (Addr × Obj)} (hN : ∀ p ∈ news, h.get? p.1 = some p.2) : ∀ {qs : List (Int × Int)} {vs : List Value}, PySem.Paired (InL news) qs vs → ∃ fs, KatTups h vs fs ∧ (∀ v ∈ fs, ∃ a t, v = Value.int a t) ∧ fs.length = vs.length
  | _, _, .nil => ⟨[], .nil, (fun _ h => nomatch h), rfl⟩
  | _, _, .cons ⟨x, t, u, e, hm⟩ r => by
    obtain ⟨fs, k, hf, hl⟩ := kat_tups_of hN r
    subst e
    refine ⟨.int _ t :: fs, KatTups.cons (hN _ hm) rfl rfl rfl k, ?_, by simp [hl]⟩
    intro v hv
    rcases List.mem_cons.mp hv with rfl | hv
    · exact ⟨_, _, rfl⟩
    · exact hf v hv
section
variable {prog : Program} {w : World} {A : Around} {E : Value → Shared → Prop} {s : Shared} {h₀ : Heap} {L l : Addr} {m : Str → Option Value} {news : List (Addr × Obj)} {Q : Value → Shared → Prop} {vs : List Value} {qs : List (Int × Int)}
theorem sorted_tups (F : Fr h₀ L s.heap m) (N : News h₀ L s.heap news) (hl : s.heap.IsList l vs.toArray) (ht : PySem.Paired (InL news) qs vs) (hn : qs.length = 3 ∨ qs.length = 4) (hd : ∀ i j, i < qs.length → j < qs.length → i ≠ j → (qs.map (·.1)).getD i 0 ≠ (qs.map (·.1)).getD j 0)
    (h : ∀ D n out q' h', q'.Perm qs → (q'.Pairwise fun a b => a.1 < b.1) → PySem.Paired (InL news) q' out → Fr h₀ L h' m → News h₀ L h' ((D, listOf out.toArray n) :: news) → (∀ p ∈ news, p.1 < D) → Q (.ref D) { s with heap := h' }) :
    wpAny (model prog w) A (call (.builtin "sorted") [.ref l]) Q E s := by
  have hlen : vs.length = qs.length := ht.length.symm
  refine kat_sorted F N hl (by omega) (by omega) fun D e1 h' F' N' lt => ?_
  obtain ⟨fs, k, hf, hfl⟩ := kat_tups_of (h := h') (fun p hp => (N' p (.tail _ hp)).1) ht
  refine kat_kind (fs := fs) (T := .type "int") k (by omega) (fun v hv => by obtain ⟨a, t, rfl⟩ := hf v hv; exact Looks.of_pure rfl) rfl ?_
  rw [hlen]
  obtain ⟨g1, g2, g3⟩ := sort_good hn (qs.map (·.1)) hd
  refine kas_pure (lt := ltK (qs.map (·.1))) ?_ _ g1 ?_
  · intro i j C hi hj hij hc
    unfold kas_ask
    obtain ⟨x, t, u, e, hm⟩ := paired_get (0, 0) Value.none ht i hi
    obtain ⟨y, t', u', e', hm'⟩ := paired_get (0, 0) Value.none ht j hj
    rw [e, e']
    refine kat_lt (N' _ (.tail _ hm)).1 rfl (N' _ (.tail _ hm')).1 rfl (kat_cons (wpAny_eqBool_int ?_))
    have k1 : ∀ i, i < qs.length → (qs.map (·.1)).getD i 0 = (qs.getD i (0, 0)).1 := fun i hi => by simp [hi]
    have hne := hd i j hi hj hij
    rw [k1 i hi, k1 j hj] at hne
    have e1 : ((qs.getD i (0, 0)).1 == (qs.getD j (0, 0)).1) = false := by simpa using hne
    first | rw [e1] | (rw [decide_eq_false hne])
    refine kat_no (oneLt_int ?_)
    unfold ltK at hc
    rw [k1 i hi, k1 j hj] at hc
    exact hc
  · refine KasFin.intro F' N' (UpdF.head fun p hp => Nat.ne_of_lt (lt p hp)) fun h'' c F'' N'' => ?_
    refine h D c _ ((kasRun (kas_sort qs.length) (ltK (qs.map (·.1)))).toList.map fun i => qs.getD i (0, 0)) h'' ?_ ?_ (paired_map _ fun i hi => paired_get (0, 0) Value.none ht i (by simpa using g2.mem_iff.mp hi)) F'' N'' lt
    · have := g2.map fun i => qs.getD i (0, 0)
      rw [map_range_getD] at this
      exact this
    · rw [List.pairwise_map]
      refine List.Pairwise.imp_of_mem ?_ g3
      intro a b ha hb hab
      have ha' : a < qs.length := by simpa using g2.mem_iff.mp ha
      have hb' : b < qs.length := by simpa using g2.mem_iff.mp hb
      unfold ltK at hab
      simpa [ha', hb'] using hab
end
end
end Mine
namespace Mine
section
theorem reset_MFar : True := by
  first | (walk1; done) | skip
  w_top off
  exact True.intro
def prsOf (a b c : List Nat) : List (Int × Int) := prs (fun k => pk a b c k) 3
def farStep (q : List (Int × Int)) (st : Int × Int) (k : Nat) : Int × Int :=
  if (q.getD (q.length - 1 - k) (0, 0)).2 = st.2 then st else (st.1 + 2 ^ (q.length - 1 - k), 3 - (q.getD (q.length - 1 - k) (0, 0)).2 - st.2)
def farUp (q : List (Int × Int)) (goal : Int) : Nat → Int × Int
  | 0 => (0, goal)
  | n + 1 => farStep q (farUp q goal n) n
def farOf (q : List (Int × Int)) (goal : Int) : Int := (farUp q goal q.length).1

theorem Tp.led {B : Heap} {ex : List Addr} {h : Heap} {its : List Value} {ps : List (Int × Int)} (tp : Tp B ex h its ps) : ∃ tl : List (Addr × Obj), (∀ p ∈ tl, B.get? p.1 = none ∧ p.1 ∉ ex ∧ h.get? p.1 = some p.2) ∧ PySem.Paired (InL tl) ps its := by
  induction tp with
  | nil => exact ⟨[], (fun _ h => nomatch h), .nil⟩
  | cons x _ ih =>
    obtain ⟨y, t, u, e, f, g, o⟩ := x
    obtain ⟨tl, k, r⟩ := ih
    refine ⟨(y, tupOf _ t u) :: tl, fun p hp => ?_, .cons ⟨y, t, u, e, .head _⟩ (Paired.mono (fun a b ⟨x, t, u, e, hm⟩ => ⟨x, t, u, e, .tail _ hm⟩) r)⟩
    rcases List.mem_cons.mp hp with rfl | hp
    · exact ⟨f, g, o⟩
    · exact k p hp
section
variable {prog : Program} {w : World} {A : Around} {E : Value → Shared → Prop} {s : Shared} {h₀ : Heap} {L W x : Addr} {m : Str → Option Value} {R : List (Addr × Obj)} {z : Addr × Obj} {Q : Value → Shared → Prop} {out : List Value} {q : List (Int × Int)} {n j : Nat} {k pv : Int} {p : Int × Int} {t u v : Tok} {value slice : PySem.Expr}
theorem item_ref_K (N : News h₀ L s.heap ((W, listOf out.toArray n) :: R)) (ho : PySem.Paired (InL R) q out) (h0 : 0 ≤ k) (hk : k < q.length) (e : k.toNat = j) (hq : q.length ≤ 100) (h : ∀ x t u, (x, tupOf (q.getD j (0, 0)) t u) ∈ R → Q (.ref x) s)
    (hs : subscripted slice false (.ref W) (.int k v) = operate [.ref W, .int k v] (getItem (.ref W) (.int k v))) :
    wpAny (model prog w) A (subscriptTail value slice (.ref W) (.int k v)) Q E s := by
  have hL : s.heap.IsList W out.toArray := ⟨_, (N _ (.head _)).1, rfl, n, rfl⟩
  have hj : j < q.length := by omega
  have ho' : out.length = q.length := ho.length.symm
  obtain ⟨x, t, u, e1, hm⟩ := paired_get (0, 0) Value.none ho j hj
  refine tail_any hL.typeIs slot_list_getitem.lookup (wpAny_getItem_list hL h0 (by omega) ?_ (h x t u hm)) hs
  rw [e, List.getElem?_toArray, ← e1]
  have hj' : j < out.length := by omega
  simp [hj']
theorem tup1_K (N : News h₀ L s.heap (z :: R)) (hm : (x, tupOf p t u) ∈ R) (e : p.2 = pv) (h : Q (.int pv u) s)
    (hs : subscripted slice false (.ref x) (.int 1 v) = operate [.ref x, .int 1 v] (getItem (.ref x) (.int 1 v))) :
    wpAny (model prog w) A (subscriptTail value slice (.ref x) (.int 1 v)) Q E s := by
  have hT : IsTup s.heap x #[.int p.1 t, .int p.2 u] := ⟨_, (N _ (.tail _ hm)).1, rfl, 0, rfl⟩
  subst e
  exact item_tupleT (l := [.int p.1 t, .int p.2 u]) hT (by decide) (by decide) rfl rfl h hs
end
def JF (W : Addr) (o : Obj) (R : List (Addr × Obj)) (q : List (Int × Int)) (goal : Int) (i : Nat) (m : Str → Option Value) (news : List (Addr × Obj)) : Prop :=
  news = (W, o) :: R ∧ ∃ t1 t2, m (Str.ofString "far") = some (.int (farUp q goal i).1 t1) ∧ m (Str.ofString "due") = some (.int (farUp q goal i).2 t2) ∧ m (Str.ofString "where") = some (.ref W)
theorem farUp_same {q : List (Int × Int)} {goal : Int} {i j : Nat} (hj : q.length - 1 - i = j) (h : (q.getD j (0, 0)).2 = (farUp q goal i).2) : farUp q goal (i + 1) = farUp q goal i := by
  subst hj
  show farStep q (farUp q goal i) i = _
  unfold farStep
  rw [if_pos h]
theorem farUp_step {q : List (Int × Int)} {goal : Int} {i j : Nat} (hj : q.length - 1 - i = j) (h : ¬ (q.getD j (0, 0)).2 = (farUp q goal i).2) : farUp q goal (i + 1) = ((farUp q goal i).1 + 2 ^ j, 3 - (q.getD j (0, 0)).2 - (farUp q goal i).2) := by
  subst hj
  show farStep q (farUp q goal i) i = _
  unfold farStep
  rw [if_neg h]
theorem sub_over {h h' : Heap} {o : Obj} (kp : ∀ b o', b ≠ h.objs.size → (h.push o).get? b = some o' → h'.get? b = some o') : Sub h h' := fun b o' e => kp b o' (Nat.ne_of_lt (Heap.lt_size e)) (Heap.get?_push_of_some _ e)
local macro_rules | `(tactic| walk_at "subscriptTail") => `(tactic| (k_here; (with_reducible show wpAny _ _ (subscriptTail _ _ (Value.ref _) (Value.int _ _)) _ _ _); k_dflt (refine' item_ref_K ?N ?ho ?h0 ?hk ?e ?hq ?_ ?hs; (case N => k_asm); (case ho => assumption); (case h0 => omega); (case hk => omega); (case e => assumption); (case hq => omega); (case hs => with_unfolding_all rfl)); intro x' t' u' hm'))
local macro_rules | `(tactic| walk_at "subscriptTail") => `(tactic| (k_here; (with_reducible show wpAny _ _ (subscriptTail _ _ (Value.ref _) (Value.int 1 _)) _ _ _); k_dflt (refine' tup1_K ?N ?hm ?e ?_ ?hs; (case N => k_asm); (case hm => assumption); (case e => assumption); (case hs => with_unfolding_all rfl))))
local macro_rules | `(tactic| walk_at "by omega") => `(tactic| (simp only [decide_eq_true_eq, decide_eq_false_iff_not, Bool.not_eq_true', bne_iff_ne, ne_eq, Bool.and_eq_true, Bool.not_eq_true, Bool.not_eq_false]; omega))
local macro_rules | `(tactic| walk_at "ite") => `(tactic| (k_here; first
  | refine ite_pos' (by walk_at "by omega") ?_
  | refine ite_neg' (by walk_at "by omega") ?_))
local macro_rules | `(tactic| walk_at "exec For Name Call cons nil") => `(tactic| (k_here; (rename Fr _ _ _ _ => lF'); (with_unfolding_all refine' For_invVF lF' ?k1 ?k2 ?_ ?k3 ?k4; (case k1 => exact rfl); (case k2 => exact rfl); (case k3 => (intro _; rfl)); (case k4 => exact PassesOwn.never); k_whole)))
local macro_rules | `(tactic| walk_at "pyIter ref") => `(tactic| refine hold_ ?_)
local macro_rules | `(tactic| walk_at "eval ListComp") => `(tactic| refine hold_ ?_)
local macro_rules | `(tactic| walk_at "call builtin:sorted") => `(tactic| refine hold_ ?_)
theorem spec_far (w : World) (l : Addr) (a b c : List Nat) (ta tb tc u : Tok) (goal : Int) (ha : a.length ≤ 4) (hb : b.length ≤ 4) (hc : c.length ≤ 4) (hda : ∀ d ∈ a, Disc d) (hdb : ∀ d ∈ b, Disc d) (hdc : ∀ d ∈ c, Disc d)
    (hn : (prsOf a b c).length = 3 ∨ (prsOf a b c).length = 4) (hne : ∀ i j, i < (prsOf a b c).length → j < (prsOf a b c).length → i ≠ j → ((prsOf a b c).map (·.1)).getD i 0 ≠ ((prsOf a b c).map (·.1)).getD j 0) :
    Spec 55 630 490 w [.ref l, .int goal u] (fun h => h.IsList l #[.str (T a) ta, .str (T b) tb, .str (T c) tc])
      (fun g h v => ∃ q t, q.Perm (prsOf a b c) ∧ (q.Pairwise fun x y => x.1 < y.1) ∧ v = .int (farOf q goal) t) := by
  have kf : Mine.hd.heap_39 w.params = Mine.hd.heap_39 w.params ∧ PySem.Challenge.rw_ph0074_01 = PySem.Challenge.rw_ph0074_01 := by (k_fill; exact ⟨rfl, rfl⟩)
  clear kf
  k_dflt (refine' spec_enterC ?k6 ?k7 ?k8 ?k9 ?kB ?kD ?c2 ?c3 ?c4 ?pre ?_; (case k6 => k_is); (case k7 => k_is); (case k8 => decide); (case k9 => exact rfl); (case kB => exact rfl); (case kD => decide +kernel); (case c2 => exact rfl); (case c3 => exact rfl); (case c4 => exact rfl); (case pre => (intro _ _ k h; exact h.at fun o e => k _ o e)))
  intro gd env outer base g L' h₁ mean mg mb s tk cells F' N' Y' B' X' T' hpre
  obtain ⟨oc, hE, hcd⟩ := CellsAre.one Y'
  subst hE
  clear Y'
  change _ = Data.cell (some (.ref l)) at hcd
  (try k_unmd); k_fold
  k_steps
  show wpAny _ _ (eval _ _) _ _ _
  rw [eval_ListComp]
  refine wpAny_comprehension_free (use := none) (cl := [(Str.ofString "pegs", L' + 1)]) rfl (by intro _; rfl) (by with_unfolding_all rfl) rfl (by decide) ?_
  (try k_unmd)
  show wpAny _ _ (eval _ _) _ _ _
  k_steps
  rename IsRange _ _ _ _ _ _ _ _ => hr
  rename Fr _ _ _ _ => F1
  rename News _ _ _ _ => N1
  refine wpAny_pyIter_range hr (by decide) ?_
  refine comp_two (fun k => pk a b c (k : Int)) rfl (Walks.range rfl _ 0 1 3) (fun i v ⟨t, e⟩ => ⟨t, by rw [e]; congr 1; omega⟩) (fun i h e => ⟨_, e⟩) ?_ ?_ (by decide) rfl rfl rfl (by decide) (fun k _ => pk_len _ ha hb hc) (fun k _ => pk_disc _ hda hdb hdc) (fun _ _ => rfl) ?_ ?_ ?_
  · exact Heap.get?_push_size _ rfl
  · show @LT.lt Nat _ _ (Heap.push _ _).objs.size
    rw [Heap.size_push]
    exact Nat.lt_succ_self _
  · intro C k t s' m' hk ns mx kp Q' hq
    have sub := sub_over kp
    refine Subscript_ (wpAny_Name (wpAny_loadName_cell rfl rfl rfl ⟨_, sub _ _ (N1 _ (.head _)).1, hcd⟩ ?_) (by decide))
    refine wpAny_Name (wpAny_loadName_local rfl rfl ns mx ?_) (by decide)
    exact item3_K (F1.keeps sub) hpre rfl (by omega) (by omega) (hq _) (by with_unfolding_all rfl)
  · intro C k t d u s' m' hk hd ns mx md kp
    have sub := sub_over kp
    refine Tuple_ (spliced_more (Subscript_ ?_))
    k_dflt (refine' nameG_K (F1.keeps sub) ?k1 ?k2 ?k3 ?_ ?k4 ?k5 ?k6 ?k7; (case k4 => rfl); (case k5 => rfl); (case k6 => rfl); (case k7 => decide); (case k1 => k_asm); (case k2 => k_asm); (case k3 => k_is))
    refine wpAny_Name (wpAny_loadName_local rfl rfl ns md ?_) (by decide)
    refine tok_K (F1.keeps sub) X' hd (fun tkD => ?_) (fun _ => by with_unfolding_all rfl)
    refine spliced_more (wpAny_Name (wpAny_loadName_local rfl rfl ns mx ?_) (by decide))
    refine spliced_none ?_
    refine wpAny_newObj_type ?_ (by show (2 : Nat) ≤ sizeLine; decide)
    exact ⟨_, _, _, _, _, rfl, rfl, fun b o e => Heap.get?_push_of_some _ e, Heap.get?_none_of_le (Nat.le_refl _), Heap.get?_push_size _ rfl⟩
  · intro D C its n h' tk' m' fD fC hDC ns hD tp kp h'' hs
    dsimp only at fD fC tp kp ⊢
    have sub0 := sub_over kp
    have sub : Sub _ h'' := fun b o e => hs.extBut b o (fun q => by rw [q] at e; rw [Heap.get?_push_of_some _ e] at fC; cases fC) (sub0 b o e)
    have F3 := F1.keeps sub
    have hD'' : h''.get? D = some (listOf its.toArray n) := hs.extBut _ _ hDC hD
    obtain ⟨tl, htl, hpr⟩ := tp.led
    have N3 : News g L' h'' (tl ++ [(L' + 1, oc)]) := fun p hp => by
      rcases List.mem_append.mp hp with hp | hp
      · have z := htl p hp
        exact news_add F1 N1 sub ((show Sub _ _ from fun b o e => Heap.get?_push_of_some _ e).none z.1) (hs.extBut _ _ (fun q => z.2.1 (by simp [q])) z.2.2) p (.head _)
      · exact (N1.grown sub) p hp
    obtain ⟨R, hRe⟩ : ∃ R, R = tl ++ [(L' + 1, oc)] := ⟨_, rfl⟩
    rw [← hRe] at N3
    have hpr2 : PySem.Paired (InL R) (prsOf a b c) its := Paired.mono (fun p v ⟨x, t, u, e, hm⟩ => ⟨x, t, u, e, by rw [hRe]; exact List.mem_append_left _ hm⟩) hpr
    clear hpr htl hRe hs sub sub0 kp tp fD fC ns F1 N1
    (try k_unmd)
    k_steps
    show wpAny _ _ (call _ _) _ _ _
    refine sorted_tups F3 N3 ⟨_, hD'', rfl, n, rfl⟩ hpr2 hn hne ?_
    intro W n' out q h3 hperm hpw hout F4 N4 hlt
    have hlt2 := allLt_of hlt
    have hol : out.length = q.length := hout.length.symm
    have hq : q.length = 3 ∨ q.length = 4 := by rw [hperm.length_eq]; exact hn
    have hsz : out.toArray.size = q.length := by rw [List.size_toArray, hol]
    clear hr F3 N3 hD hD''
    (try k_unmd)
    (try k_fold)
    k_steps
    rename IsRange _ _ _ _ _ _ _ _ => hr
    rename Fr _ _ _ _ => F5
    rename News _ _ _ _ => N5
    have N6 : News g L' _ ((W, listOf out.toArray n') :: R) := fun p hp => N5 p (.tail _ hp)
    refine iter_range_J (n := q.length) (JF W (listOf out.toArray n') R q goal) rfl hr (by omega) F5 N6 ⟨rfl, _, _, rfl, rfl, rfl⟩ ?_ ?_
    · clear hr F5 N5 N6
      rintro i t m₁ news₁ h5 tk₁ own hi ⟨rfl, t1, t2, mf, md, mw⟩ ne F6 N6
      change Fr g L' h5 _ at F6
      change News g L' h5 _ at N6
      rw [map3 mf md mw] at F6
      (try dsimp only at F6)
      obtain ⟨R2, hR2⟩ : ∃ R2, R2 = R ++ own := ⟨_, rfl⟩
      rw [List.cons_append, ← hR2] at N6
      have hout2 : PySem.Paired (InL R2) q out := Paired.mono (fun p v ⟨x, t, u, e, hm⟩ => ⟨x, t, u, e, by rw [hR2]; exact List.mem_append_left _ hm⟩) hout
      obtain ⟨j, hj⟩ : ∃ j, ((q.length : Int) - 1 - (i : Int)).toNat = j := ⟨_, rfl⟩
      obtain ⟨pv, hpv⟩ : ∃ pv, (q.getD j (0, 0)).2 = pv := ⟨_, rfl⟩
      obtain ⟨fa, hfa⟩ : ∃ fa, (farUp q goal i).1 = fa := ⟨_, rfl⟩
      obtain ⟨du, hdu⟩ : ∃ du, (farUp q goal i).2 = du := ⟨_, rfl⟩
      rw [hfa, hdu] at F6
      (try dsimp only)
      (try k_unmd); k_fold
      have hj2 : q.length - 1 - i = j := by omega
      by_cases hpd : pv = du
      · have e9 := farUp_same (goal := goal) hj2 (by rw [hpv, hdu]; exact hpd)
        k_steps
        (try dsimp only); (try k_unfold); (try dsimp only)
        rename Fr _ _ _ _ => F9
        rename News _ _ _ _ => N9
        rw [hR2] at N9
        exact TurnQ.next (news' := (W, listOf out.toArray n') :: R) F9 N9 ne ⟨rfl, t1, t2, by rw [e9, hfa]; rfl, by rw [e9, hdu]; rfl, rfl⟩
      · have e9 := farUp_step (goal := goal) hj2 (by rw [hpv, hdu]; exact hpd)
        rw [hpv, hdu, hfa] at e9
        k_steps
        (try dsimp only); (try k_unfold); (try dsimp only)
        rename Fr _ _ _ _ => F9
        rename News _ _ _ _ => N9
        rw [hR2] at N9
        rw [hj] at F9
        exact TurnQ.next (news' := (W, listOf out.toArray n') :: R) F9 N9 ne ⟨rfl, _, _, by rw [e9]; rfl, by rw [e9]; rfl, rfl⟩
    · clear hr F5 N5 N6
      rintro m₁ news₁ h5 tk₁ ⟨rfl, t1, t2, mf, md, mw⟩ F6 N6
      change Fr g L' h5 _ at F6
      change News g L' h5 _ at N6
      rw [map3 mf md mw] at F6
      (try dsimp only at F6)
      (try dsimp only)
      (try k_unmd)
      k_steps
      (try dsimp only); (try k_unfold); (try dsimp only)
      rename Fr _ _ _ _ => F9
      exact FinQ.intro F9 ⟨q, _, hperm, hpw, rfl⟩
end
end Mine
namespace Mine
section
theorem reset_MNearR : True := by
  first | (walk1; done) | skip
  w_top off
  exact True.intro
theorem disc_lt {d : Nat} (h : Disc d) : d < 256 ∧ d ≠ 39 := by
  simp only [Disc, List.mem_cons, List.not_mem_nil, or_false] at h
  omega
/-- what _law_read gives of a text put together -/
theorem spec_readT (w : World) (a b c nt : List Nat) (t : Tok) (ha : a.length ≤ 4) (hb : b.length ≤ 4) (hc : c.length ≤ 4) (hn : nt.length ≤ 10) (hda : ∀ d ∈ a, Disc d) (hdb : ∀ d ∈ b, Disc d) (hdc : ∀ d ∈ c, Disc d) (hnt : ∀ d ∈ nt, d < 256) :
    Spec 43 630 490 w [.str (T (a ++ 39 :: (b ++ 39 :: (c ++ 39 :: nt)))) t] (fun _ => True) (fun g h v => ∃ l d t1 t2 t3 t4, v = .ref d ∧ g.get? l = none ∧ g.get? d = none ∧ h.get? l = some (listOf #[.str (T a) t1, .str (T b) t2, .str (T c) t3] 0) ∧ h.get? d = some { cls := .type "tuple", data := .seq #[.ref l, .str (T (39 :: nt)) t4] }) := by
  have fa : 39 ∉ a := fun h => (disc_lt (hda _ h)).2 rfl
  have fb : 39 ∉ b := fun h => (disc_lt (hdb _ h)).2 rfl
  have fc : 39 ∉ c := fun h => (disc_lt (hdc _ h)).2 rfl
  have hfind : Txt.find (T (c ++ 39 :: nt)) (Str.ofString "'") = (c.length : Int) := by rw [tick_is]; exact find_is fc
  refine spec_read w _ (T a) (T b) (T (c ++ 39 :: nt)) (T c) (T (39 :: nt)) t ?_ ?_ ?_ ?_ ?_ ?_
  · rw [T_len]; simp; omega
  · rw [tick_is]
    refine split_three fa fb ?_
    intro x hx
    simp only [List.mem_append, List.mem_cons] at hx
    rcases hx with h | rfl | h | rfl | h | rfl | h
    · exact (disc_lt (hda _ h)).1
    · omega
    · exact (disc_lt (hdb _ h)).1
    · omega
    · exact (disc_lt (hdc _ h)).1
    · omega
    · exact hnt _ h
  · rw [T_len]; simp; omega
  · rw [hfind]; omega
  · rw [hfind, slice_to _ _ (by simp)]; simp
  · rw [hfind, slice_from _ _ (by simp)]; simp
section
variable {w : World} {A A₀ : Around} {env : Env} {outer : List Env} {E : Value → Shared → Prop} {s : Shared} {h₀ base : Heap} {L : Addr} {m mg mb : Str → Option Value} {mean : ExcName → Option Value} {news : List (Addr × Obj)} {Q : Value → Shared → Prop}
abbrev Six (a b c : List Nat) : Prop := a.length ≤ 4 ∧ b.length ≤ 4 ∧ c.length ≤ 4 ∧ (∀ d ∈ a, Disc d) ∧ (∀ d ∈ b, Disc d) ∧ ∀ d ∈ c, Disc d
theorem use_readT {x : Str} {a b c nt : List Nat} {t : Tok} (PA : Pre6 A env outer L 630 490) (PB : Pre5 A₀ base outer h₀ L m mean mg mb s.heap w news)
    (ex : x = T (a ++ 39 :: (b ++ 39 :: (c ++ 39 :: nt)))) (ok : Six a b c) (hn : nt.length ≤ 10) (hnt : ∀ d ∈ nt, d < 256)
    (h : ∀ l d h' tk t1 t2 t3 t4, Fr h₀ L h' m → News h₀ L h' ((d, { cls := .type "tuple", data := .seq #[.ref l, .str (T (39 :: nt)) t4] }) :: (l, listOf #[.str (T a) t1, .str (T b) t2, .str (T c) t3] 0) :: news) → (∀ p ∈ news, p.1 ≠ l) → (∀ p ∈ news, p.1 ≠ d) → Q (.ref d) { s with heap := h', toks := tk }) :
    wpAny (model PySem.Challenge.rw_ph0074_01.row.prog w) A (call (.ref 43) [.str x t]) Q E s := by
  subst ex
  obtain ⟨ha, hb, hc, hda, hdb, hdc⟩ := ok
  obtain ⟨hh, hA, hf, hke, hd, hu⟩ := PA
  obtain ⟨B, F, X, T', N⟩ := PB
  refine spec_readT w a b c nt t ha hb hc hn hda hdb hdc hnt A env outer A₀ base h₀ L m mean mg mb s Q E hh hA hf hke hd hu B F X T' trivial ?_
  rintro v h' tk' k ⟨l, d, t1, t2, t3, t4, rfl, e1, e2, o1, o2⟩
  refine h l d h' tk' t1 t2 t3 t4 (F.keeps k) (fun p hp => ?_) (news_ne N e1) (news_ne N e2)
  rcases List.mem_cons.mp hp with rfl | hp
  · exact news_add F N k e2 o2 _ (.head _)
  · exact news_add F N k e1 o1 p hp
structure TriOk (M : Tri) : Prop where
  la : M.1.length ≤ 4
  lb : M.2.1.length ≤ 4
  lc : M.2.2.length ≤ 4
  da : ∀ d ∈ M.1, Disc d
  db : ∀ d ∈ M.2.1, Disc d
  dc : ∀ d ∈ M.2.2, Disc d
  hn : (prsOf M.1 M.2.1 M.2.2).length = 3 ∨ (prsOf M.1 M.2.1 M.2.2).length = 4
  hne : ∀ i j, i < (prsOf M.1 M.2.1 M.2.2).length → j < (prsOf M.1 M.2.1 M.2.2).length → i ≠ j → ((prsOf M.1 M.2.1 M.2.2).map (·.1)).getD i 0 ≠ ((prsOf M.1 M.2.1 M.2.2).map (·.1)).getD j 0
theorem TriOk.six {M : Tri} (ok : TriOk M) : Six M.1 M.2.1 M.2.2 := ⟨ok.la, ok.lb, ok.lc, ok.da, ok.db, ok.dc⟩
theorem TriOk.three {M : Tri} (ok : TriOk M) : M.1.length ≤ 4 ∧ M.2.1.length ≤ 4 ∧ M.2.2.length ≤ 4 := ⟨ok.la, ok.lb, ok.lc⟩
/-- the distance is told by the sorted pairs -/
def FarIs (M : Tri) (goal f : Int) : Prop := ∀ q, q.Perm (prsOf M.1 M.2.1 M.2.2) → (q.Pairwise fun x y => x.1 < y.1) → farOf q goal = f
theorem use_far {M : Tri} {l : Addr} {goal f : Int} {u ta tb tc : Tok} (PA : Pre6 A env outer L 630 490) (PB : Pre5 A₀ base outer h₀ L m mean mg mb s.heap w news)
    (hl : s.heap.IsList l #[.str (T M.1) ta, .str (T M.2.1) tb, .str (T M.2.2) tc]) (ok : TriOk M) (hfar : FarIs M goal f)
    (h : ∀ h' tk t, Fr h₀ L h' m → News h₀ L h' news → Q (.int f t) { s with heap := h', toks := tk }) :
    wpAny (model PySem.Challenge.rw_ph0074_01.row.prog w) A (call (.ref 55) [.ref l, .int goal u]) Q E s := by
  obtain ⟨hh, hA, hf, hke, hd, hu⟩ := PA
  obtain ⟨B, F, X, T', N⟩ := PB
  refine spec_far w l M.1 M.2.1 M.2.2 ta tb tc u goal ok.la ok.lb ok.lc ok.da ok.db ok.dc ok.hn ok.hne A env outer A₀ base h₀ L m mean mg mb s Q E hh hA hf hke hd hu B F X T' hl ?_
  rintro v h' tk' k ⟨q, t, hp, hs, rfl⟩
  rw [hfar q hp hs]
  exact h h' tk' t (F.keeps k) (N.grown k)
end
section
variable {prog : Program} {w : World} {A : Around} {E : Value → Shared → Prop} {s : Shared} {l l' : Addr} {a b c : List Nat} {ta tb tc t ta' tb' tc' : Tok} {Q : Value → Shared → Prop}
theorem join3_K (hl : s.heap.IsList l #[.str (T a) ta, .str (T b) tb, .str (T c) tc]) (hn : a.length ≤ 4 ∧ b.length ≤ 4 ∧ c.length ≤ 4)
    (h : ∀ t' k, Q (.str (T (a ++ 39 :: (b ++ 39 :: c))) t') { s with toks := k }) : wpAny (model prog w) A (call (.builtin "str.join") [.str (Str.ofString "'") t, .ref l]) Q E s := by
  obtain ⟨ha, hb, hc⟩ := hn
  refine join_listC hl (.cons _ _ (.cons _ _ (.cons _ _ .nil))) (by decide) ?_ (fun t' k => ?_)
  · simp only [List.map_cons, List.map_nil, List.sum_cons, List.sum_nil, T_len, List.length_cons, List.length_nil]
    omega
  · have e : Txt.join (Str.ofString "'") [T a, T b, T c] = T (a ++ 39 :: (b ++ 39 :: c)) := by
      rw [tick_is]
      show Builtin.Str.glued _ _ = _
      rw [StrLaws.glued_eq_join]
      show T a ++ T [39] ++ (T b ++ T [39] ++ T c) = _
      simp only [T_app]
      simp
    rw [e]; exact h t' k
theorem ne3_K (hl : s.heap.IsList l #[.str (T a) ta, .str (T b) tb, .str (T c) tc]) (hl' : s.heap.IsList l' #[.str (T a) ta', .str (T b) tb', .str (T c) tc']) (hu : A.units < cLine)
    (h : Q (.bool false) s) : wpAny (model prog w) A (compareOp .NotEq (.ref l) (.ref l')) Q E s := by
  refine PySem.SeqAt.RcNeAt.lists (e := fun _ => true) hl hl' rfl hu (fun j h1 h2 => ?_) prog w E Q h
  have h1' : j < 3 := h1
  have hj : j = 0 ∨ j = 1 ∨ j = 2 := by omega
  rcases hj with rfl | rfl | rfl
  · have := PySem.SeqAt.EqAt.str_str (A := A.in1) (s := s) (T a) ta (T a) ta'; rw [beq_self_eq_true] at this; exact this
  · have := PySem.SeqAt.EqAt.str_str (A := A.in1) (s := s) (T b) tb (T b) tb'; rw [beq_self_eq_true] at this; exact this
  · have := PySem.SeqAt.EqAt.str_str (A := A.in1) (s := s) (T c) tc (T c) tc'; rw [beq_self_eq_true] at this; exact this
theorem in3_K {x y z : Str} {k : Bool} (hl : s.heap.IsList l #[.str x ta, .str y tb, .str z tc]) (e : ([x, y, z].any (· == Str.ofString "")) = k) (h : Q (.bool k) s) : wpAny (model prog w) A (compareOp .In (.str (Str.ofString "") t) (.ref l)) Q E s :=
  in_list_strs (vs := [.str x ta, .str y tb, .str z tc]) hl (.cons _ _ (.cons _ _ (.cons _ _ .nil))) (by rw [e]; exact h)
end
theorem Refs.get {rest : List (Addr × Obj)} {vs : List Value} {Ms : List Tri} (h : Refs rest vs Ms) : ∀ (i : Nat) (v : Value), vs[i]? = some v → ∃ (M : Tri) (r : Addr) (t0 t1 t2 : Tok) (n : Nat), Ms[i]? = some M ∧ v = Value.ref r ∧ (r, listOf #[.str (T M.1) t0, .str (T M.2.1) t1, .str (T M.2.2) t2] n) ∈ rest := by
  induction h with
  | nil => intro i v h; simp at h
  | @snoc vs Ms M r t0 t1 t2 n hh hm ih =>
    intro i v hv
    have hl := hh.len
    rcases Nat.lt_trichotomy i vs.length with hi | hi | hi
    · rw [List.getElem?_append_left hi] at hv
      obtain ⟨M', r', a, b, c, n', e1, e2, e3⟩ := ih i v hv
      exact ⟨M', r', a, b, c, n', by rw [List.getElem?_append_left (by omega)]; exact e1, e2, e3⟩
    · subst hi
      simp at hv
      refine ⟨M, r, t0, t1, t2, n, by rw [hl]; simp, hv.symm, hm⟩
    · rw [List.getElem?_eq_none (by simp; omega)] at hv; cases hv
section
variable {prog : Program} {w : World} {A : Around} {E : Value → Shared → Prop} {s : Shared} {env : Env} {h₀ : Heap} {x : Str} {body : List Stmt} {Q : Flow → Shared → Prop}
theorem iter_list_J {l : Addr} {n : Nat} {vs : List Value} {m₀ : Str → Option Value} {news : List (Addr × Obj)} (J : Nat → (Str → Option Value) → List (Addr × Obj) → Prop)
    (hh : A.handled = none) (hl : s.heap.get? l = some (listOf vs.toArray n)) (hl0 : h₀.get? l = none) (F : Fr h₀ env.locals s.heap m₀) (N : News h₀ env.locals s.heap news) (hnl : ∀ p ∈ news, p.1 ≠ l) (hLl : env.locals ≠ l) (hj : J 0 m₀ news)
    (turn : ∀ (i : Nat) v m₁ news₁ h tk own, vs[i]? = some v → J i m₁ news₁ → (∀ p ∈ own, ∀ q ∈ news₁, p.1 ≠ q.1) → Fr h₀ env.locals h (fun y => if y = x then some v else m₁ y) → News h₀ env.locals h (news₁ ++ own) →
      wpAny (model prog w) A (execs body env) (TurnQ h₀ env.locals (J (i + 1)) own s Q) E { s with heap := h, toks := tk })
    (done : ∀ m₁ news₁ h tk, J vs.length m₁ news₁ → Fr h₀ env.locals h m₁ → News h₀ env.locals h news₁ → Q .next { s with heap := h, toks := tk }) :
    wpAny (model prog w) A (pyIter (.ref l)) (fun it s₂ => LoopAtV prog w A h₀ env x body Q E it s₂) E s := by
  have hls : s.heap.IsList l vs.toArray := ⟨_, hl, rfl, n, rfl⟩
  have hlt : l < s.heap.objs.size := Heap.lt_size hl
  refine wpAny_pyIter_list hls ?_
  have W := Walks.list (prog := prog) (w := w) hh s.heap.objs.size l (Nat.ne_of_lt hlt) vs.toArray
  have hsz : vs.toArray.size = vs.length := List.size_toArray ..
  rw [hsz] at W
  refine ⟨_, _, _, vs.length, _, _, m₀, news, fun i m nw => J i m nw ∧ ∀ p ∈ nw, p.1 ≠ l, rfl, W, ?_, ?_, ?_, ⟨⟨_, Heap.get?_push_size _ rfl, rfl, rfl⟩, hls.at fun o e => Heap.get?_push_of_some _ e⟩, F.push _, (fun p hp => ⟨Heap.get?_push_of_some _ (N p hp).1, (N p hp).2⟩), ⟨hj, hnl⟩, ?_, ?_⟩
  · intro hm
    rcases List.mem_cons.mp hm with e | hm
    · exact absurd F.ns.lt (e ▸ Nat.lt_irrefl _)
    · exact hLl (List.mem_singleton.mp hm)
  · intro b hb
    rw [List.mem_singleton.mp hb]
    exact next_is_new F
  · intro p hp hI
    exact absurd (Heap.lt_size (N p hp).1) ((List.mem_singleton.mp hI) ▸ Nat.lt_irrefl _)
  · rintro i v m₁ news₁ s₁ own ⟨hh', tk', rfl⟩ hin hP ⟨hJ, hnl₁⟩ hoff hown _ hall hst F₁ N₁
    have hv : vs[i]? = some v := by simpa using hP
    have ne : ∀ p ∈ own, ∀ q ∈ news₁, p.1 ≠ q.1 := fun p hp q hq e => by
      rcases List.mem_cons.mp (hown p hp) with h1 | h1
      · exact hoff q hq (by rw [← e, h1]; exact .head _)
      · exact hnl₁ q hq (by rw [← e, List.mem_singleton.mp h1])
    have N₂ : News h₀ env.locals hh' (news₁ ++ own) := fun p hp => N₁ p ((List.mem_append.mp hp).elim (fun h => List.mem_append.mpr (.inr h)) fun h => List.mem_append.mpr (.inl h))
    refine wpAny_mono (turn i v m₁ news₁ hh' tk' own hv hJ ne F₁ N₂) (fun f s₂ p => ?_) fun _ _ e => e
    have fin : (∃ h' tk' m' news', s₂ = { s with heap := h', toks := tk' } ∧ Fr h₀ env.locals h' m' ∧ News h₀ env.locals h' (news' ++ own) ∧ (∀ p ∈ own, ∀ q ∈ news', p.1 ≠ q.1) ∧ J (i + 1) m' news') → LoopStepU h₀ env.locals [s.heap.objs.size] own (fun m nw => J (i + 1) m nw ∧ ∀ p ∈ nw, p.1 ≠ l) { s with heap := hh', toks := tk' } .next s₂ := by
      rintro ⟨h', tk, m', news', e, F', N', hn, hm⟩
      obtain ⟨⟨oI, hoI, _⟩, ⟨ol, hol, _⟩⟩ := hst
      have hI := hall s.heap.objs.size (.head _) (next_is_new F) oI hoI
      have hL := hall l (.tail _ (.head _)) hl0 ol hol
      exact ⟨rfl, h', tk, m', news', e, F', fun p hp => N' p ((List.mem_append.mp hp).elim (fun h => List.mem_append.mpr (.inr h)) fun h => List.mem_append.mpr (.inl h)), fun p hp hq => hn _ hI p hp (List.mem_singleton.mp hq).symm, hm, fun p hp e => hn _ hL p hp e.symm⟩
    cases f with
    | ret v => exact .ret p
    | brk => exact .brk p
    | next => exact .next (fin p)
    | cont => exact .cont (fin p)
  · rintro h' tk m' news' F' N' _ ⟨hJ, _⟩
    exact done m' news' h' tk hJ F' N'
end
end
end Mine
namespace Mine
section
theorem reset_MNear : True := by
  first | (walk1; done) | skip
  w_top off
  exact True.intro
def OffD (D : Addr) (rest : List (Addr × Obj)) : Prop := ∀ p ∈ rest, p.1 ≠ D
section
variable {w : World} {A A₀ : Around} {env : Env} {outer : List Env} {E : Value → Shared → Prop} {s : Shared} {h₀ base : Heap} {L : Addr} {m mg mb : Str → Option Value} {mean : ExcName → Option Value} {news : List (Addr × Obj)} {Q : Value → Shared → Prop}
theorem use_moves {a b c : List Nat} {l : Addr} {ta tb tc : Tok} (PA : Pre6 A env outer L 630 490) (PB : Pre5 A₀ base outer h₀ L m mean mg mb s.heap w [])
    (hl : h₀.IsList l #[.str (T a) ta, .str (T b) tb, .str (T c) tc]) (ok : Six a b c)
    (h : ∀ D its n rest h' tk, Refs rest its (mvAll a b c 3) → OffD D rest → Fr h₀ L h' m → News h₀ L h' ((D, listOf its.toArray n) :: rest) → Q (.ref D) { s with heap := h', toks := tk }) :
    wpAny (model PySem.Challenge.rw_ph0074_01.row.prog w) A (call (.ref 50) [.ref l]) Q E s := by
  obtain ⟨ha, hb, hc, hda, hdb, hdc⟩ := ok
  obtain ⟨hh, hA, hf, hke, hd, hu⟩ := PA
  obtain ⟨B, F, X, T', N⟩ := PB
  refine spec_moves w l a b c ta tb tc ha hb hc hda hdb hdc A env outer A₀ base h₀ L m mean mg mb s Q E hh hA hf hke hd hu B F X T' (hl.at fun o e => F.keep l o e) ?_
  rintro v h' tk' k ⟨D, its, n, rest, rfl, e, r, rD⟩
  refine h D its n rest h' tk' r rD (F.keeps k) fun p hp => ?_
  exact news_add F N k (e p hp).1 (e p hp).2 _ (.head _)
end
theorem head_ne {a l : Addr} {o : Obj} {R : List (Addr × Obj)} (h : ∀ p ∈ (a, o) :: R, p.1 ≠ l) : a ≠ l := h _ (.head _)
theorem refs_size {rest : List (Addr × Obj)} {vs : List Value} {Ms : List Tri} (h : Refs rest vs Ms) : vs.toArray.size = Ms.length := by rw [List.size_toArray, h.len]
theorem any_empty (a b c : List Nat) : ([T a ++ T b, T b ++ T c, T c ++ T a].any (· == Str.ofString "")) = decide (a ++ b = [] ∨ b ++ c = [] ∨ c ++ a = []) := by
  rw [empty_is, T_app, T_app, T_app, Bool.eq_iff_iff]
  simp only [List.any_cons, List.any_nil, Bool.or_false, Bool.or_eq_true, beq_iff_eq, T_eq, decide_eq_true_eq]
def JN (D2 : Addr) (its : List Value) (Ms : List Tri) (F : Tri → Int) (goal far : Int) (nt : List Nat) (tg tn tf : Tok) (i : Nat) (m : Str → Option Value) (news : List (Addr × Obj)) : Prop :=
  ∃ its2 n2 rest2, news = (D2, listOf its2.toArray n2) :: rest2 ∧ (∀ p ∈ rest2, p.1 ≠ D2) ∧ Refs rest2 its2 ((Ms.take i).filter fun M => decide (F M - far = -1)) ∧ Refs rest2 its Ms ∧
    m (Str.ofString "nearer") = some (.ref D2) ∧ m (Str.ofString "goal") = some (.int goal tg) ∧ m (Str.ofString "note") = some (.str (T (39 :: nt)) tn) ∧ m (Str.ofString "far") = some (.int far tf)

local macro_rules | `(tactic| walk_at "call ref") => `(tactic| (k_here; (with_reducible show wpAny _ _ (call (Value.ref 50) [Value.ref _]) _ _ _); k_dflt (refine' use_moves ?PA ?PB ?hl ?ok ?_; (case PA => exact pre6 rfl rfl rfl rfl rfl rfl); (case PB => refine ⟨?_, ?_, ?_, ?_, ?_⟩ <;> k_asm); (case hl => k_asm); (case ok => refine ⟨?_, ?_, ?_, ?_, ?_, ?_⟩ <;> assumption); k_whole); intro D' its' n' rest' h' tk' hR' hD' F' N'; (have hz' := refs_size hR'); (try dsimp only); (try k_fold)))
local macro_rules | `(tactic| walk_at "compareOp In str ref") => `(tactic| (k_here; k_dflt (refine' in3_K ?hl ?e ?_; (case hl => is_list); (case e => assumption); k_whole)))
theorem filt_yes {Ms : List Tri} {P : Tri → Bool} {i : Nat} {M : Tri} (e : Ms[i]? = some M) (h : P M = true) : (Ms.take (i + 1)).filter P = (Ms.take i).filter P ++ [M] := by
  rw [take_succ_filter P Ms i M e, h]; rfl
theorem filt_no {Ms : List Tri} {P : Tri → Bool} {i : Nat} {M : Tri} (e : Ms[i]? = some M) (h : P M = false) : (Ms.take (i + 1)).filter P = (Ms.take i).filter P := by
  rw [take_succ_filter P Ms i M e, h]; simp
section
variable {g h : Heap} {L D2 l d : Addr} {its its2 : List Value} {Ms : List Tri} {F : Tri → Int} {goal far : Int} {nt : List Nat} {tg tn tf : Tok} {i n2 : Nat} {m' : Str → Option Value} {own rest2 R : List (Addr × Obj)} {M : Tri} {od : Obj} {s : Shared} {Q : Flow → Shared → Prop} {tk : Nat}
theorem near_no {N' : List (Addr × Obj)} (Fr' : Fr g L h m') (N : News g L h N') (hN : ∀ p ∈ (D2, listOf its2.toArray n2) :: R, p ∈ N') (hRe : R = rest2 ++ own) (hD : ∀ p ∈ rest2, p.1 ≠ D2) (ne : ∀ p ∈ own, ∀ q ∈ (D2, listOf its2.toArray n2) :: rest2, p.1 ≠ q.1)
    (hR2 : Refs rest2 its2 ((Ms.take i).filter fun M => decide (F M - far = -1))) (hRM : Refs rest2 its Ms) (eM : Ms[i]? = some M) (hap : ¬ F M - far = -1)
    (mn : m' (Str.ofString "nearer") = some (.ref D2)) (mg : m' (Str.ofString "goal") = some (.int goal tg)) (mt : m' (Str.ofString "note") = some (.str (T (39 :: nt)) tn)) (mf : m' (Str.ofString "far") = some (.int far tf)) :
    TurnQ g L (JN D2 its Ms F goal far nt tg tn tf (i + 1)) own s Q .next { s with heap := h, toks := tk } := by
  refine TurnQ.next (news' := (D2, listOf its2.toArray n2) :: rest2) Fr' (fun p hp => N p (hN p ?_)) ne ⟨its2, n2, rest2, rfl, hD, ?_, hRM, mn, mg, mt, mf⟩
  · rw [hRe]; exact hp
  · rw [filt_no eM (decide_eq_false hap)]; exact hR2
theorem near_yes {N' : List (Addr × Obj)} {t0 t1 t2 : Tok} {k n3 : Nat} (Fr' : Fr g L h m') (N : News g L h N') (hN : ∀ p ∈ (l, listOf #[.str (T M.1) t0, .str (T M.2.1) t1, .str (T M.2.2) t2] k) :: (D2, listOf (its2.toArray.push (.ref l)) n3) :: R, p ∈ N') (hRe : R = rest2 ++ own) (hD : ∀ p ∈ rest2, p.1 ≠ D2) (ne : ∀ p ∈ own, ∀ q ∈ (D2, listOf its2.toArray n2) :: rest2, p.1 ≠ q.1)
    (hl : ∀ p ∈ (D2, listOf its2.toArray n2) :: R, p.1 ≠ l)
    (hR2 : Refs rest2 its2 ((Ms.take i).filter fun M => decide (F M - far = -1))) (hRM : Refs rest2 its Ms) (eM : Ms[i]? = some M) (hap : F M - far = -1)
    (mn : m' (Str.ofString "nearer") = some (.ref D2)) (mg : m' (Str.ofString "goal") = some (.int goal tg)) (mt : m' (Str.ofString "note") = some (.str (T (39 :: nt)) tn)) (mf : m' (Str.ofString "far") = some (.int far tf)) :
    TurnQ g L (JN D2 its Ms F goal far nt tg tn tf (i + 1)) own s Q .next { s with heap := h, toks := tk } := by
  have e1 : (its2 ++ [Value.ref l]).toArray = its2.toArray.push (.ref l) := by simp
  refine TurnQ.next (news' := (D2, listOf (its2 ++ [Value.ref l]).toArray n3) :: ((l, listOf #[.str (T M.1) t0, .str (T M.2.1) t1, .str (T M.2.2) t2] k) :: rest2)) Fr' (fun p hp => N p (hN p ?_)) ?_ ⟨its2 ++ [Value.ref l], n3, (l, listOf #[.str (T M.1) t0, .str (T M.2.1) t1, .str (T M.2.2) t2] k) :: rest2, rfl, ?_, ?_, hRM.mono fun p hp => .tail _ hp, mn, mg, mt, mf⟩
  · rw [e1] at hp
    rw [hRe]
    simp only [List.cons_append, List.mem_cons, List.mem_append] at hp ⊢
    rcases hp with h | h | h <;> simp only [h, true_or, or_true]
  · intro p hp q hq
    rcases List.mem_cons.mp hq with rfl | hq
    · exact ne p hp (D2, listOf its2.toArray n2) (.head _)
    · rcases List.mem_cons.mp hq with rfl | hq
      · exact hl p (.tail _ (by rw [hRe]; exact List.mem_append_right _ hp))
      · exact ne p hp q (.tail _ hq)
  · intro p hp
    rcases List.mem_cons.mp hp with rfl | hp
    · exact Ne.symm (hl _ (.head _))
    · exact hD p hp
  · rw [filt_yes eM (decide_eq_true hap)]
    exact .snoc (hR2.mono fun p hp => .tail _ hp) (.head _)
end
theorem Refs.one {rest : List (Addr × Obj)} {vs : List Value} {M : Tri} (h : Refs rest vs [M]) : ∃ (r : Addr) (t0 t1 t2 : Tok) (n : Nat), vs = [Value.ref r] ∧ (r, listOf #[.str (T M.1) t0, .str (T M.2.1) t1, .str (T M.2.2) t2] n) ∈ rest := by
  have hl := h.len
  obtain ⟨v, rfl⟩ := List.length_eq_one_iff.mp hl
  obtain ⟨M', r, t0, t1, t2, n, e1, e2, e3⟩ := h.get 0 v rfl
  cases e1
  exact ⟨r, t0, t1, t2, n, by rw [e2], e3⟩
theorem map4 {m : Str → Option Value} {x y z k : Str} {u v o q : Value} (hx : m x = some u) (hy : m y = some v) (hz : m z = some o) (hk : m k = some q) : m = fun j => if j = x then some u else if j = y then some v else if j = z then some o else if j = k then some q else m j := by
  funext j
  by_cases h1 : j = x
  · simp [h1, hx]
  · by_cases h2 : j = y
    · subst h2; simp only [if_neg h1, if_true]; exact hy
    · by_cases h3 : j = z
      · subst h3; simp only [if_neg h1, if_neg h2, if_true]; exact hz
      · by_cases h4 : j = k
        · subst h4; simp only [if_neg h1, if_neg h2, if_neg h3, if_true]; exact hk
        · simp only [if_neg h1, if_neg h2, if_neg h3, if_neg h4]
local macro_rules | `(tactic| walk_at "by omega") => `(tactic| (simp only [beq_iff_eq, decide_eq_true_eq, decide_eq_false_iff_not, Bool.not_eq_true', bne_iff_ne, ne_eq, Bool.and_eq_true, Bool.not_eq_true, Bool.not_eq_false]; omega))
local macro_rules | `(tactic| walk_at "ite") => `(tactic| (k_here; first
  | refine ite_neg' (by (simp only [bne_self_eq_false, Bool.false_eq_true, not_false_eq_true, decide_true, Bool.not_true]; done)) ?_
  | refine ite_pos' (by walk_at "by omega") ?_
  | refine ite_neg' (by walk_at "by omega") ?_))
local macro_rules | `(tactic| walk_at "call builtin:str.join") => `(tactic| (k_here; k_dflt (refine' join3_K ?hl ?hn ?_; (case hl => exact News.isList (by k_asm) (by first | assumption | exact .tail _ (by assumption))); (case hn => exact TriOk.three (by assumption)); k_whole); intro tj' kj'))
local macro_rules | `(tactic| walk_at "call ref") => `(tactic| (k_here; (with_reducible show wpAny _ _ (call (Value.ref 43) [Value.str _ _]) _ _ _); k_dflt (refine' use_readT ?PA ?PB ?ex ?ok ?hn ?hnt ?_; (case PA => exact pre6 rfl rfl rfl rfl rfl rfl); (case PB => refine ⟨?_, ?_, ?_, ?_, ?_⟩ <;> k_asm); (case ex => assumption); (case ok => exact TriOk.six (by assumption)); (case hn => assumption); (case hnt => assumption); k_whole); intro l' d' h' tk' t1' t2' t3' t4' F' N' l1 l2; (have n1' := head_ne l1); (have n2' := head_ne l2); (try dsimp only); (try k_fold)))
local macro_rules | `(tactic| walk_at "call ref") => `(tactic| (k_here; (with_reducible show wpAny _ _ (call (Value.ref 55) [Value.ref _, Value.int _ _]) _ _ _); k_dflt (refine' use_far ?PA ?PB ?hl ?ok ?hfar ?_; (case PA => exact pre6 rfl rfl rfl rfl rfl rfl); (case PB => refine ⟨?_, ?_, ?_, ?_, ?_⟩ <;> k_asm); (case hl => exact News.isList (by k_asm) (.tail _ (.head _))); (case ok => assumption); (case hfar => assumption); k_whole); intro h' tk' tf' F' N'; (try dsimp only); (try k_fold)))
local macro_rules | `(tactic| walk_at "compareOp NotEq ref ref") => `(tactic| (k_here; k_dflt (refine' ne3_K ?hl ?hl2 ?hu ?_; (case hl => exact News.isList (by k_asm) (.tail _ (.head _))); (case hl2 => exact News.isList (by k_asm) (.tail _ (.tail _ (.tail _ (by assumption))))); (case hu => (show _ < cLine; exact Nat.le_of_ble_eq_true rfl)); k_whole)))
local macro_rules | `(tactic| walk_at "call builtin:list.append") => `(tactic| (k_here; (with_reducible show wpAny _ _ (call (Value.builtin _) [Value.ref _, _]) _ _ _); k_dflt (refine' append_K ?k1 ?k2 ?k3 ?_ ?z; (case k1 => k_asm); (case k2 => k_asm); (case k3 => exact Upd.tail (Ne.symm (by assumption)) (Upd.tail (Ne.symm (by assumption)) (Upd.head (by assumption)))); (case z => (rw [PySem.sizeLine_eq]; omega)); k_whole); intro h' F' N'))
local macro_rules | `(tactic| walk_at "pyIter ref") => `(tactic| refine hold_ ?_)
local macro_rules | `(tactic| walk_at "exec For Name Name cons nil") => `(tactic| refine hold_ ?_)
theorem spec_nearer (w : World) (l : Addr) (a b c nt : List Nat) (ta tb tc tg tn tf : Tok) (goal far : Int) (F : Tri → Int) (ms : Tri) (ha : a.length ≤ 4) (hb : b.length ≤ 4) (hc : c.length ≤ 4) (hda : ∀ d ∈ a, Disc d) (hdb : ∀ d ∈ b, Disc d) (hdc : ∀ d ∈ c, Disc d)
    (hnl : nt.length ≤ 10) (hnt : ∀ d ∈ nt, d < 256)
    (hM : ∀ M ∈ mvAll a b c 3, TriOk M ∧ FarIs M goal (F M) ∧ -1 ≤ F M - far ∧ F M - far ≤ 1)
    (hlen : (mvAll a b c 3).length = if (a ++ b = [] ∨ b ++ c = [] ∨ c ++ a = []) then 2 else 3)
    (hst : (mvAll a b c 3).filter (fun M => decide (F M - far = -1)) = [ms]) :
    Spec 62 620 480 w [.ref l, .int goal tg, .str (T (39 :: nt)) tn, .int far tf] (fun h => h.IsList l #[.str (T a) ta, .str (T b) tb, .str (T c) tc])
      (fun g h v => ∃ r t0 t1 t2 n, v = .ref r ∧ g.get? r = none ∧ h.get? r = some (listOf #[.str (T ms.1) t0, .str (T ms.2.1) t1, .str (T ms.2.2) t2] n)) := by
  have kf : Mine.hd.heap_39 w.params = Mine.hd.heap_39 w.params ∧ PySem.Challenge.rw_ph0074_01 = PySem.Challenge.rw_ph0074_01 := by (k_fill; exact ⟨rfl, rfl⟩)
  clear kf
  k_dflt (refine' spec_enter ?k6 ?k7 ?k8 ?k9 ?kB ?c2 ?c3 ?c4 ?c5 ?pre ?post ?_; (case k6 => k_is); (case k7 => k_is); (case k8 => decide); (case k9 => (intro s; exact BindsTo.of_eq rfl)); (case c5 => decide); (case kB => exact locs rfl); (case c2 => exact rfl); (case c3 => exact rfl); (case c4 => exact rfl); (case pre => (intro _ _ k h; exact h.at fun o e => k _ o e)); (case post => (rintro a b h v k ⟨r, t0, t1, t2, n, rfl, e, o⟩; exact ⟨r, t0, t1, t2, n, rfl, k.none e, o⟩)))
  intro gd env outer base g L' h₁ mean mg mb s tk F' N' B' X' T' hpre
  have hTa := T_len a
  have hTb := T_len b
  have hTc := T_len c
  obtain ⟨k0, hin⟩ : ∃ k0, ([T a ++ T b, T b ++ T c, T c ++ T a].any (· == Str.ofString "")) = k0 := ⟨_, rfl⟩
  have hk0 : k0 = decide (a ++ b = [] ∨ b ++ c = [] ∨ c ++ a = []) := by rw [← hin]; exact any_empty a b c
  have hlen2 : (mvAll a b c 3).length = if k0 = true then 2 else 3 := by rw [hlen, hk0]; simp only [decide_eq_true_eq]
  clear hk0 hlen
  (try k_unmd); k_fold
  cases k0
  all_goals (
    simp only [Bool.false_eq_true, if_false, if_true] at hlen2
    k_steps
    rename Refs _ _ _ => hR
    rename Fr _ _ _ _ => F1
    rename OffD _ _ => hrD
    rename (_ ∧ _ ∧ AllLt _ _) => hlt
    show wpAny _ _ (exec _ _) _ _ _
    with_unfolding_all refine For_invVF F1 rfl rfl ?_ (by intro _; rfl) PassesOwn.never
    k_steps
    rename Fr _ _ _ _ => F1
    rename News _ _ _ _ => N1
    refine iter_list_J (JN _ _ (mvAll a b c 3) F goal far nt tg tn tf) rfl (N1 _ (.tail _ (.tail _ (.head _)))).1 (N1 _ (.tail _ (.tail _ (.head _)))).2.2 F1 (news := (_, listOf #[] 0) :: _) (fun p hp => ?hN) ?hnl (Ne.symm (N1 _ (.tail _ (.tail _ (.head _)))).2.1) ⟨[], 0, _, rfl, ?hne, .nil, hR, rfl, rfl, rfl, rfl⟩ ?_ ?_
    case hN =>
      rcases List.mem_cons.mp hp with rfl | hp
      · exact N1 _ (.head _)
      · exact N1 p (.tail _ (.tail _ (.tail _ hp)))
    case hnl =>
      intro p hp
      rcases List.mem_cons.mp hp with rfl | hp
      · exact Nat.ne_of_gt hlt.2.1
      · exact hrD p hp
    case hne => exact fun p hp => Nat.ne_of_lt (ktn_ltOf hlt.2.2 p hp)
    · clear F1 N1 hR hrD hlt
      rintro i v m₁ news₁ h tk₁ own hv ⟨its2, n2, rest2, rfl, hD, hR2, hRM, mn, mgo, mt, mf⟩ ne F2 N2
      change Fr g L' h _ at F2
      change News g L' h _ at N2
      obtain ⟨M, r, u0, u1, u2, nn, eM, rfl, hmem⟩ := hRM.get i v hv
      obtain ⟨ok, hfar, lo, hi⟩ := hM M (List.mem_of_getElem? eM)
      rw [map4 mn mgo mt mf] at F2
      (try dsimp only at F2)
      obtain ⟨R, hRe⟩ : ∃ R, R = rest2 ++ own := ⟨_, rfl⟩
      rw [List.cons_append, ← hRe] at N2
      have hmemR : (r, listOf #[.str (T M.1) u0, .str (T M.2.1) u1, .str (T M.2.2) u2] nn) ∈ R := by rw [hRe]; exact List.mem_append_left _ hmem
      have hRD : ∀ p ∈ R, p.1 ≠ _ := fun p hp => by
        rw [hRe] at hp
        rcases List.mem_append.mp hp with hp | hp
        · exact hD p hp
        · exact ne p hp _ (.head _)
      have hx : T (M.1 ++ 39 :: (M.2.1 ++ 39 :: M.2.2)) ++ T (39 :: nt) = T (M.1 ++ 39 :: (M.2.1 ++ 39 :: (M.2.2 ++ 39 :: nt))) := by
        rw [T_app]; simp only [List.append_assoc, List.cons_append]
      have hx1 := T_len (M.1 ++ 39 :: (M.2.1 ++ 39 :: M.2.2))
      have hx2 := T_len (39 :: nt)
      have la := ok.la
      have lb := ok.lb
      have lc := ok.lc
      simp only [List.length_append, List.length_cons] at hx1 hx2
      have hsz : its2.toArray.size ≤ 100 := by
        have h1 := hR2.len
        have h2 := List.length_filter_le (fun M => decide (F M - far = -1)) ((mvAll a b c 3).take i)
        have h3 := List.length_take_le i (mvAll a b c 3)
        have h4 := mvAll_len a b c 3
        rw [List.size_toArray]
        simp only [List.length_take] at h2
        omega
      obtain ⟨fm, hfm⟩ : ∃ fm, F M = fm := ⟨_, rfl⟩
      rw [hfm] at lo hi hfar
      (try dsimp only)
      (try k_unmd); k_fold
      by_cases hap : fm - far = -1
      · k_steps
        (try dsimp only); (try k_unfold); (try dsimp only)
        rename Fr _ _ _ _ => F9
        rename News _ _ _ _ => N9
        refine near_yes F9 N9 (fun p hp => .tail _ hp) hRe hD ne ?_ hR2 hRM eM (by rw [hfm]; exact hap) rfl rfl rfl rfl
        assumption
      · k_steps
        (try dsimp only); (try k_unfold); (try dsimp only)
        rename Fr _ _ _ _ => F9
        rename News _ _ _ _ => N9
        exact near_no F9 N9 (fun p hp => .tail _ (.tail _ hp)) hRe hD ne hR2 hRM eM (by rw [hfm]; exact hap) rfl rfl rfl rfl
    · clear F1 N1 hR hrD hlt
      rintro m₁ news₁ h tk₁ ⟨its2, n2, rest2, rfl, hD, hR2, hRM, mn, mgo, mt, mf⟩ F2 N2
      change Fr g L' h _ at F2
      change News g L' h _ at N2
      rw [hRM.len, List.take_length, hst] at hR2
      obtain ⟨r, t0, t1, t2, k, rfl, hmem⟩ := hR2.one
      rw [map4 mn mgo mt mf] at F2
      (try dsimp only at F2)
      (try dsimp only)
      (try k_unmd)
      k_steps
      (try dsimp only); (try k_unfold); (try dsimp only)
      rename Fr _ _ _ _ => F9
      rename News _ _ _ _ => N9
      exact FinQ.intro F9 ⟨r, t0, t1, t2, k, rfl, (N9 _ (.tail _ hmem)).2.2, (N9 _ (.tail _ hmem)).1⟩)
end
end Mine
namespace Mine
section
theorem reset_MWalk : True := by
  first | (walk1; done) | skip
  w_top off
  exact True.intro
/-- one nearer move, told by the plain reckoning -/
def NearOk (M : Tri) (goal far : Int) (ms : Tri) : Prop :=
  TriOk M ∧ ∃ F : Tri → Int, (∀ M' ∈ mvAll M.1 M.2.1 M.2.2 3, TriOk M' ∧ FarIs M' goal (F M') ∧ -1 ≤ F M' - far ∧ F M' - far ≤ 1) ∧
    (mvAll M.1 M.2.1 M.2.2 3).length = (if (M.1 ++ M.2.1 = [] ∨ M.2.1 ++ M.2.2 = [] ∨ M.2.2 ++ M.1 = []) then 2 else 3) ∧
    (mvAll M.1 M.2.1 M.2.2 3).filter (fun M' => decide (F M' - far = -1)) = [ms]
inductive Path (goal : Int) : Tri → Nat → Tri → Prop
  | done {M : Tri} : Path goal M 0 M
  | step {M ms e : Tri} {n : Nat} : NearOk M goal ((n : Int) + 1) ms → Path goal ms n e → Path goal M (n + 1) e
abbrev triObj (M : Tri) (t0 t1 t2 : Tok) (n : Nat) : Obj := listOf #[.str (T M.1) t0, .str (T M.2.1) t1, .str (T M.2.2) t2] n
section
variable {w : World} {A A₀ : Around} {env : Env} {outer : List Env} {E : Value → Shared → Prop} {s : Shared} {h₀ base : Heap} {L : Addr} {m mg mb : Str → Option Value} {mean : ExcName → Option Value} {news : List (Addr × Obj)} {Q : Value → Shared → Prop}
theorem use_nearer {M ms : Tri} {l : Addr} {goal far : Int} {nt : List Nat} {ta tb tc tg tn tf : Tok} (PA : Pre6 A env outer L 620 480) (PB : Pre5 A₀ base outer h₀ L m mean mg mb s.heap w news)
    (hl : s.heap.IsList l #[.str (T M.1) ta, .str (T M.2.1) tb, .str (T M.2.2) tc]) (ok : NearOk M goal far ms) (hnl : nt.length ≤ 10) (hnt : ∀ d ∈ nt, d < 256)
    (h : ∀ r h' tk t0 t1 t2 n, Fr h₀ L h' m → News h₀ L h' ((r, triObj ms t0 t1 t2 n) :: news) → Q (.ref r) { s with heap := h', toks := tk }) :
    wpAny (model PySem.Challenge.rw_ph0074_01.row.prog w) A (call (.ref 62) [.ref l, .int goal tg, .str (T (39 :: nt)) tn, .int far tf]) Q E s := by
  obtain ⟨ok, G, h1, h2, h3⟩ := ok
  obtain ⟨hh, hA, hf, hke, hd, hu⟩ := PA
  obtain ⟨B, F, X, T', N⟩ := PB
  refine spec_nearer w l M.1 M.2.1 M.2.2 nt ta tb tc tg tn tf goal far G ms ok.la ok.lb ok.lc ok.da ok.db ok.dc hnl hnt h1 h2 h3 A env outer A₀ base h₀ L m mean mg mb s Q E hh hA hf hke hd hu B F X T' hl ?_
  rintro v h' tk' k ⟨r, t0, t1, t2, n, rfl, e, o⟩
  exact h r h' tk' t0 t1 t2 n (F.keeps k) (news_add F N k e o)
end
def JW (g : Heap) (l : Addr) (goal : Int) (nt : List Nat) (tg tn : Tok) (e : Tri) (n : Nat) (m : Str → Option Value) (news : List (Addr × Obj)) : Prop :=
  ∃ M r t0 t1 t2 k tf, m (Str.ofString "pegs") = some (.ref r) ∧ m (Str.ofString "far") = some (.int n tf) ∧ m (Str.ofString "goal") = some (.int goal tg) ∧ m (Str.ofString "note") = some (.str (T (39 :: nt)) tn) ∧
    Path goal M n e ∧ ((r = l ∧ news = [] ∧ g.get? r = some (triObj M t0 t1 t2 k)) ∨ news = [(r, triObj M t0 t1 t2 k)])
theorem walk_turn {g h : Heap} {L l r : Addr} {goal : Int} {nt : List Nat} {tg tn t0 t1 t2 tf : Tok} {e ms : Tri} {n k tk : Nat} {m : Str → Option Value} {news : List (Addr × Obj)} {s : Shared} (F : Fr g L h m) (N : News g L h ((r, triObj ms t0 t1 t2 k) :: news)) (hp : Path goal ms n e)
    (mp : m (Str.ofString "pegs") = some (.ref r)) (mf : m (Str.ofString "far") = some (.int ((n : Int) + 1 - 1) tf)) (mg : m (Str.ofString "goal") = some (.int goal tg)) (mt : m (Str.ofString "note") = some (.str (T (39 :: nt)) tn)) :
    WhileStep g L s (JW g l goal nt tg tn e) (n + 1) .next { s with heap := h, toks := tk } := by
  rw [show (n : Int) + 1 - 1 = n by omega] at mf
  refine WhileStep.intro F (news₂ := [(r, triObj ms t0 t1 t2 k)]) (fun p hp => N p ?_) (Nat.lt_succ_self n) ⟨ms, r, t0, t1, t2, k, tf, mp, mf, mg, mt, hp, .inr rfl⟩
  rw [List.mem_singleton.mp hp]; exact .head _
theorem truthy3_K {prog : Program} {w : World} {A : Around} {E : Value → Shared → Prop} {s : Shared} {l : Addr} {x y z : Value} {Q : Bool → Shared → Prop} (hl : s.heap.IsList l #[x, y, z]) (h : Q true { s with toks := s.toks + 1 + 1 }) : wpAny (model prog w) A (truthy (.ref l)) Q E s :=
  wpAny_truthy_list hl (by show ((3 : Nat) : Int) < 2 ^ 63; decide) h
local macro_rules | `(tactic| walk_at "call ref") => `(tactic| (k_here; (with_reducible show wpAny _ _ (call (Value.ref 55) [Value.ref _, Value.int _ _]) _ _ _); k_dflt (refine' use_far ?PA ?PB ?hl ?ok ?hfar ?_; (case PA => exact pre6 rfl rfl rfl rfl rfl rfl); (case PB => refine ⟨?_, ?_, ?_, ?_, ?_⟩ <;> k_asm); (case hl => assumption); (case ok => assumption); (case hfar => assumption); k_whole); intro h' tk' tf' F' N'; (try dsimp only); (try k_fold)))
local macro_rules | `(tactic| walk_at "call ref") => `(tactic| (k_here; (with_reducible show wpAny _ _ (call (Value.ref 62) _) _ _ _); k_dflt (refine' use_nearer ?PA ?PB ?hl ?ok ?hnl ?hnt ?_; (case PA => exact pre6 rfl rfl rfl rfl rfl rfl); (case PB => refine ⟨?_, ?_, ?_, ?_, ?_⟩ <;> k_asm); (case hl => assumption); (case ok => assumption); (case hnl => assumption); (case hnt => assumption); k_whole); intro r' h' tk' t0' t1' t2' n' F' N'; (try dsimp only); (try k_fold)))
local macro_rules | `(tactic| walk_at "truthy ref") => `(tactic| (k_here; k_dflt (refine' truthy3_K ?hl ?_; (case hl => assumption); k_whole)))
local macro_rules | `(tactic| walk_at "by omega") => `(tactic| (simp only [beq_iff_eq, decide_eq_true_eq, decide_eq_false_iff_not, Bool.not_eq_true', bne_iff_ne, ne_eq, Bool.and_eq_true, Bool.not_eq_true, Bool.not_eq_false]; omega))
local macro_rules | `(tactic| walk_at "ite") => `(tactic| (k_here; first
  | refine ite_pos' (by walk_at "by omega") ?_
  | refine ite_neg' (by walk_at "by omega") ?_))
local macro_rules | `(tactic| walk_at "exec While") => `(tactic| refine hold_ ?_)
local macro_rules | `(tactic| walk_at "exec While BoolOp cons nil") => `(tactic| refine hold_ ?_)
theorem spec_walked (w : World) (l : Addr) (M e : Tri) (nt : List Nat) (ta tb tc tg tn : Tok) (k : Nat) (goal : Int) (n : Nat) (ok : TriOk M) (hfar : FarIs M goal n) (hp : Path goal M n e) (hnl : nt.length ≤ 10) (hnt : ∀ d ∈ nt, d < 256) :
    Spec 69 610 470 w [.ref l, .int goal tg, .str (T (39 :: nt)) tn] (fun h => h.get? l = some (triObj M ta tb tc k))
      (fun g h v => ∃ r t0 t1 t2 n, v = .ref r ∧ (r = l ∨ g.get? r = none) ∧ h.get? r = some (triObj e t0 t1 t2 n)) := by
  have kf : Mine.hd.heap_39 w.params = Mine.hd.heap_39 w.params ∧ PySem.Challenge.rw_ph0074_01 = PySem.Challenge.rw_ph0074_01 := by (k_fill; exact ⟨rfl, rfl⟩)
  clear kf
  k_dflt (refine' spec_enter ?k6 ?k7 ?k8 ?k9 ?kB ?c2 ?c3 ?c4 ?c5 ?pre ?post ?_; (case k6 => k_is); (case k7 => k_is); (case k8 => decide); (case k9 => (intro s; exact BindsTo.of_eq rfl)); (case c5 => decide); (case kB => exact locs rfl); (case c2 => exact rfl); (case c3 => exact rfl); (case c4 => exact rfl); (case pre => (intro _ _ k h; exact k _ _ h)); (case post => (rintro a b h v k ⟨r, t0, t1, t2, n, rfl, e, o⟩; exact ⟨r, t0, t1, t2, n, rfl, e.imp id k.none, o⟩)))
  intro gd env outer base g L' h₁ mean mg mb s tk F' N' B' X' T' hpre
  have hl1 : h₁.IsList l #[.str (T M.1) ta, .str (T M.2.1) tb, .str (T M.2.2) tc] := ⟨_, F'.keep _ _ hpre, rfl, k, rfl⟩
  (try k_unmd); k_fold
  k_steps
  rename Fr _ _ _ _ => F1
  rename News _ _ _ _ => N1
  show wpAny _ _ (exec _ _) _ _ _
  refine While_inv (JW g l goal nt tg tn e) (n₀ := n) F1 N1 ⟨M, l, ta, tb, tc, k, _, rfl, rfl, rfl, rfl, hp, .inl ⟨rfl, rfl, hpre⟩⟩ ?_ PassesOwn.never
  clear F1 N1 hl1 hfar ok hp
  rintro n' m₁ news₁ h2 tk₁ F2 N2 ⟨M', r, u0, u1, u2, k', tf', mp, mf, mgo, mt, hpath, hcase⟩
  have ho2 : h2.get? r = some (triObj M' u0 u1 u2 k') := by
    rcases hcase with ⟨_, _, hg⟩ | rfl
    · exact F2.keep _ _ hg
    · exact (N2 _ (.head _)).1
  have hl2 : h2.IsList r #[.str (T M'.1) u0, .str (T M'.2.1) u1, .str (T M'.2.2) u2] := ⟨_, ho2, rfl, k', rfl⟩
  have hfr : r = l ∨ g.get? r = none := by
    rcases hcase with ⟨rfl, _, _⟩ | rfl
    · exact .inl rfl
    · exact .inr (N2 _ (.head _)).2.2
  cases n' with
  | zero =>
    cases hpath
    rw [map4 mp mf mgo mt] at F2
    (try dsimp only at F2)
    (try dsimp only)
    (try k_unmd); k_fold
    k_steps
    (try dsimp only); (try k_unfold); (try dsimp only)
    rename Fr _ _ _ _ => F9
    exact FinQ.intro F9 ⟨r, u0, u1, u2, k', rfl, hfr, ho2⟩
  | succ n' =>
    cases hpath with
    | step ok2 hp2 =>
      rw [Int.natCast_succ] at mf
      rw [map4 mp mf mgo mt] at F2
      (try dsimp only at F2)
      (try dsimp only)
      (try k_unmd); k_fold
      k_steps
      (try dsimp only); (try k_unfold); (try dsimp only)
      rename Fr _ _ _ _ => F9
      rename News _ _ _ _ => N9
      exact walk_turn F9 N9 hp2 rfl rfl rfl rfl
end
end Mine
namespace Mine
section
theorem reset_MPlainR : True := by
  first | (walk1; done) | skip
  w_top off
  exact True.intro
def sel : List Nat → List Int → Int → List Nat
  | d :: ds, p :: ps, k => if p = k then d :: sel ds ps k else sel ds ps k
  | _, _, _ => []
def tri (ds : List Nat) (ps : List Int) : Tri := (sel ds ps 0, sel ds ps 1, sel ds ps 2)
noncomputable def sorts (ds : List Nat) (ps : List Int) : List (Int × Int) := (ds.map tokOf).zip ps
noncomputable def topAt : List Int → Int → Nat → Option Nat
  | [], _, _ => none
  | p :: ps, k, n => if p = k then some n else topAt ps k (n + 1)
noncomputable def mvP (ps : List Int) (i j : Int) : List (List Int) := if i = j then [] else match topAt ps i 0 with
  | none => []
  | some n => if (ps.take n).contains j then [] else [ps.set n j]
noncomputable def movesP (ps : List Int) : List (List Int) := [(0, 1), (0, 2), (1, 0), (1, 2), (2, 0), (2, 1)].flatMap fun (i, j) => mvP ps i j
noncomputable def farP (ps : List Int) (goal : Int) : Int := farOf (ps.map fun p => (0, p)) goal
noncomputable def allPs : Nat → List (List Int)
  | 0 => [[]]
  | n + 1 => (allPs n).flatMap fun ps => [0 :: ps, 1 :: ps, 2 :: ps]
def dcode (k : Nat) : Nat := [43, 45, 42, 47, 124, 38, 60, 62, 61].getD k 0
noncomputable def upDs : Nat → Nat → List (List Nat)
  | 0, _ => [[]]
  | 1, k => [[dcode k]]
  | n + 2, k => (upDs (n + 1) (k + 1)).map (dcode k :: ·) ++ (upDs (n + 1) (k + 2)).map (dcode k :: ·)
noncomputable def allDs (n : Nat) : List (List Nat) := upDs n 0 ++ upDs n 1 ++ upDs n 2
noncomputable def canon : Nat → List Nat
  | 3 => [43, 45, 42]
  | _ => [43, 45, 42, 47]
noncomputable def mapTri (f : Nat → Nat) (M : Tri) : Tri := (M.1.map f, M.2.1.map f, M.2.2.map f)
section
variable {f : Nat → Nat} {S : List Nat}
def Mono (S : List Nat) (f : Nat → Nat) : Prop := ∀ x ∈ S, ∀ y ∈ S, (tokOf (f x) < tokOf (f y) ↔ tokOf x < tokOf y)
theorem pk_map (a b c : List Nat) (k : Int) : pk (a.map f) (b.map f) (c.map f) k = (pk a b c k).map f := by
  unfold pk; split
  · rfl
  · split <;> rfl
theorem pk_in {a b c : List Nat} {k : Int} (ha : ∀ d ∈ a, d ∈ S) (hb : ∀ d ∈ b, d ∈ S) (hc : ∀ d ∈ c, d ∈ S) : ∀ d ∈ pk a b c k, d ∈ S := by
  unfold pk; split
  · exact ha
  · split
    · exact hb
    · exact hc
theorem okMove_map (hf : Mono S f) {y : List Nat} {d : Nat} (hd : d ∈ S) (hy : ∀ e ∈ y, e ∈ S) : okMove (y.map f) (f d) = okMove y d := by
  cases y with
  | nil => rfl
  | cons e y =>
    show decide (tokOf (f d) < tokOf (f e)) = decide (tokOf d < tokOf e)
    exact decide_eq_decide.mpr (hf d hd e (hy e (.head _)))
theorem mvTo_map (a b c : List Nat) (i j : Int) (d : Nat) (r : List Nat) (k : Int) : mvTo (a.map f) (b.map f) (c.map f) i j (f d) (r.map f) k = (mvTo a b c i j d r k).map f := by
  unfold mvTo
  simp only [pk_map]
  split
  · rfl
  · split <;> rfl
theorem mv_map (hf : Mono S f) {a b c : List Nat} (ha : ∀ d ∈ a, d ∈ S) (hb : ∀ d ∈ b, d ∈ S) (hc : ∀ d ∈ c, d ∈ S) (i j : Int) : mv (a.map f) (b.map f) (c.map f) i j = (mv a b c i j).map (mapTri f) := by
  have hi := pk_in (k := i) ha hb hc
  have hj := pk_in (k := j) ha hb hc
  by_cases hij : i = j
  · rw [mv_eq hij, mv_eq hij]; rfl
  · cases hx : pk a b c i with
    | nil => rw [mv_nil hx, mv_nil (by rw [pk_map, hx]; rfl)]; rfl
    | cons d r =>
      rw [hx] at hi
      have hx' : pk (a.map f) (b.map f) (c.map f) i = f d :: r.map f := by rw [pk_map, hx]; rfl
      have ho := okMove_map hf (hi d (.head _)) hj
      cases hk : okMove (pk a b c j) d with
      | false => rw [mv_no hx rfl hk, mv_no hx' (pk_map ..) (by rw [ho, hk])]; rfl
      | true => rw [mv_yes hij hx rfl hk, mv_yes hij hx' (pk_map ..) (by rw [ho, hk])]; simp only [mvTo_map]; rfl
theorem mvRow_map (hf : Mono S f) {a b c : List Nat} (ha : ∀ d ∈ a, d ∈ S) (hb : ∀ d ∈ b, d ∈ S) (hc : ∀ d ∈ c, d ∈ S) (i : Int) : ∀ n, mvRow (a.map f) (b.map f) (c.map f) i n = (mvRow a b c i n).map (mapTri f)
  | 0 => rfl
  | n + 1 => by rw [mvRow_succ, mvRow_succ, mvRow_map hf ha hb hc i n, mv_map hf ha hb hc, List.map_append]
theorem mvAll_map (hf : Mono S f) {a b c : List Nat} (ha : ∀ d ∈ a, d ∈ S) (hb : ∀ d ∈ b, d ∈ S) (hc : ∀ d ∈ c, d ∈ S) : ∀ n, mvAll (a.map f) (b.map f) (c.map f) n = (mvAll a b c n).map (mapTri f)
  | 0 => rfl
  | n + 1 => by
    show mvAll _ _ _ n ++ mvRow _ _ _ _ 3 = (mvAll _ _ _ n ++ mvRow _ _ _ _ 3).map _
    rw [mvAll_map hf ha hb hc n, mvRow_map hf ha hb hc, List.map_append]
end
theorem sel_map {f : Nat → Nat} {k : Int} : ∀ (ds : List Nat) (ps : List Int), sel (ds.map f) ps k = (sel ds ps k).map f
  | [], _ => by simp [sel]
  | _ :: _, [] => by simp [sel]
  | d :: ds, p :: ps => by
    have ih := @sel_map f k ds ps
    simp only [List.map_cons, sel, ih]
    split <;> rfl
theorem tri_map {f : Nat → Nat} (ds : List Nat) (ps : List Int) : tri (ds.map f) ps = mapTri f (tri ds ps) := by
  simp only [tri, sel_map]; rfl
noncomputable def rankOf : Nat → Nat
  | 43 => 0
  | 45 => 1
  | 42 => 2
  | _ => 3
noncomputable def letOf (ds : List Nat) (c : Nat) : Nat := ds.getD (rankOf c) 0
theorem sel_mem {d : Nat} {k : Int} : ∀ {ds : List Nat} {ps : List Int}, d ∈ sel ds ps k → d ∈ ds
  | [], _, h => by simp [sel] at h
  | _ :: _, [], h => by simp [sel] at h
  | c :: ds, p :: ps, h => by
    simp only [sel] at h
    split at h
    · rcases List.mem_cons.mp h with rfl | h
      · exact .head _
      · exact .tail _ (sel_mem h)
    · exact .tail _ (sel_mem h)
theorem sel_short {k : Int} : ∀ {ds : List Nat} {ps : List Int}, (sel ds ps k).length ≤ ds.length
  | [], _ => by simp [sel]
  | _ :: _, [] => by simp [sel]
  | _ :: ds, _ :: ps => by
    have := @sel_short k ds ps
    simp only [sel]
    split <;> simp <;> omega
theorem prs_tri (M : Tri) : prsOf M.1 M.2.1 M.2.2 = M.1.map (fun d => (tokOf d, (0 : Int))) ++ (M.2.1.map (fun d => (tokOf d, (1 : Int))) ++ M.2.2.map (fun d => (tokOf d, (2 : Int)))) := by
  show (([] ++ _) ++ _) ++ _ = _
  rw [List.nil_append, List.append_assoc]
  rfl
theorem sorts_perm : ∀ {ds : List Nat} {ps : List Int}, ds.length = ps.length → (∀ q ∈ ps, 0 ≤ q ∧ q < 3) → (sorts ds ps).Perm (prsOf (tri ds ps).1 (tri ds ps).2.1 (tri ds ps).2.2)
  | [], [], _, _ => .nil
  | d :: ds, p :: ps, hl, hp => by
    have ih := @sorts_perm ds ps (by simpa using hl) fun q hq => hp q (.tail _ hq)
    rw [prs_tri] at ih ⊢
    obtain ⟨h0, h3⟩ := hp p (.head _)
    have hc : p = 0 ∨ p = 1 ∨ p = 2 := by omega
    show ((tokOf d, p) :: sorts ds ps).Perm _
    simp only [tri] at ih
    rcases hc with rfl | rfl | rfl
    · simp only [tri, sel, if_true, show ¬ ((0 : Int) = 1) by decide, show ¬ ((0 : Int) = 2) by decide, if_false, List.map_cons, List.cons_append]
      exact ih.cons _
    · simp only [tri, sel, if_true, show ¬ ((1 : Int) = 0) by decide, show ¬ ((1 : Int) = 2) by decide, if_false, List.map_cons, List.cons_append]
      exact (ih.cons _).trans List.perm_middle.symm
    · simp only [tri, sel, if_true, show ¬ ((2 : Int) = 0) by decide, show ¬ ((2 : Int) = 1) by decide, if_false, List.map_cons]
      refine (ih.cons _).trans ?_
      rw [← List.append_assoc, ← List.append_assoc]
      exact List.perm_middle.symm
theorem sorts_up : ∀ {ds : List Nat} {ps : List Int}, (ds.Pairwise fun x y => tokOf x < tokOf y) → (sorts ds ps).Pairwise fun x y => x.1 < y.1
  | [], _, _ => .nil
  | _ :: _, [], _ => .nil
  | d :: ds, p :: ps, h => by
    obtain ⟨h1, h2⟩ := List.pairwise_cons.mp h
    refine List.pairwise_cons.mpr ⟨fun q hq => ?_, sorts_up h2⟩
    have hm : q.1 ∈ ds.map tokOf := (List.of_mem_zip hq).1
    obtain ⟨e, he, h⟩ := List.mem_map.mp hm
    show tokOf d < q.1
    rw [← h]
    exact h1 e he
theorem rank3 : ∀ ps ∈ allPs 3, mvAll (tri (canon 3) ps).1 (tri (canon 3) ps).2.1 (tri (canon 3) ps).2.2 3 = (movesP ps).map (tri (canon 3)) ∧
    (mvAll (tri (canon 3) ps).1 (tri (canon 3) ps).2.1 (tri (canon 3) ps).2.2 3).length = (if ((tri (canon 3) ps).1 ++ (tri (canon 3) ps).2.1 = [] ∨ (tri (canon 3) ps).2.1 ++ (tri (canon 3) ps).2.2 = [] ∨ (tri (canon 3) ps).2.2 ++ (tri (canon 3) ps).1 = []) then 2 else 3) := by decide +kernel
theorem rank4 : ∀ ps ∈ allPs 4, mvAll (tri (canon 4) ps).1 (tri (canon 4) ps).2.1 (tri (canon 4) ps).2.2 3 = (movesP ps).map (tri (canon 4)) ∧
    (mvAll (tri (canon 4) ps).1 (tri (canon 4) ps).2.1 (tri (canon 4) ps).2.2 3).length = (if ((tri (canon 4) ps).1 ++ (tri (canon 4) ps).2.1 = [] ∨ (tri (canon 4) ps).2.1 ++ (tri (canon 4) ps).2.2 = [] ∨ (tri (canon 4) ps).2.2 ++ (tri (canon 4) ps).1 = []) then 2 else 3) := by decide +kernel
theorem ds3_ok : ∀ ds ∈ allDs 3, ds.Pairwise (fun x y => tokOf x < tokOf y) ∧ (canon 3).map (letOf ds) = ds ∧ ∀ x ∈ canon 3, ∀ y ∈ canon 3, (tokOf (letOf ds x) < tokOf (letOf ds y) ↔ tokOf x < tokOf y) := by decide +kernel
theorem ds4_ok : ∀ ds ∈ allDs 4, ds.Pairwise (fun x y => tokOf x < tokOf y) ∧ (canon 4).map (letOf ds) = ds ∧ ∀ x ∈ canon 4, ∀ y ∈ canon 4, (tokOf (letOf ds x) < tokOf (letOf ds y) ↔ tokOf x < tokOf y) := by decide +kernel
noncomputable def stepChk (n : Nat) (ps : List Int) (goal : Int) : Bool :=
  let f := farP ps goal
  decide (0 ≤ f) && (if f = 0 then decide (ps = List.replicate n goal) else
    ((movesP ps).all fun p => decide (-1 ≤ farP p goal - f ∧ farP p goal - f ≤ 1) && (allPs n).contains p) && decide (((movesP ps).filter fun p => decide (farP p goal - f = -1)).length = 1))
theorem step3 : ∀ ps ∈ allPs 3, ∀ goal ∈ [(0 : Int), 1, 2], stepChk 3 ps goal = true := by decide +kernel
theorem step4 : ∀ ps ∈ allPs 4, ∀ goal ∈ [(0 : Int), 1, 2], stepChk 4 ps goal = true := by decide +kernel
theorem disc3 : ∀ ds ∈ allDs 3, ds.length = 3 ∧ ∀ d ∈ ds, d ∈ [43, 45, 42, 47, 124, 38, 60, 62, 61] := by decide +kernel
theorem disc4 : ∀ ds ∈ allDs 4, ds.length = 4 ∧ ∀ d ∈ ds, d ∈ [43, 45, 42, 47, 124, 38, 60, 62, 61] := by decide +kernel
theorem farUp_congr {q q' : List (Int × Int)} {goal : Int} (hl : q.length = q'.length) (h : ∀ j, (q.getD j (0, 0)).2 = (q'.getD j (0, 0)).2) : ∀ n, farUp q goal n = farUp q' goal n
  | 0 => rfl
  | n + 1 => by
    show farStep q _ n = farStep q' _ n
    rw [farUp_congr hl h n]
    unfold farStep
    rw [hl, h]
theorem farOf_snd {q q' : List (Int × Int)} {goal : Int} (h : q.map (·.2) = q'.map (·.2)) : farOf q goal = farOf q' goal := by
  have hl : q.length = q'.length := by simpa using congrArg List.length h
  unfold farOf
  rw [← hl]
  rw [farUp_congr hl]
  intro j
  have e : ∀ l : List (Int × Int), (l.getD j (0, 0)).2 = (l.map (·.2)).getD j 0 := by
    intro l
    simp only [List.getD_eq_getElem?_getD, List.getElem?_map]
    cases l[j]? <;> rfl
  rw [e, e, h]
theorem sorts_far {ds : List Nat} {ps : List Int} {goal : Int} (h : ds.length = ps.length) : farOf (sorts ds ps) goal = farP ps goal := by
  refine farOf_snd ?_
  simp only [sorts, List.map_map]
  rw [List.map_snd_zip (by simp [h])]
  simp [Function.comp_def]
theorem far_is {M : Tri} {s : List (Int × Int)} {goal : Int} (hp : s.Perm (prsOf M.1 M.2.1 M.2.2)) (hs : s.Pairwise fun x y => x.1 < y.1) : FarIs M goal (farOf s goal) := by
  intro q hq hs'
  have e : q = s := List.Perm.eq_of_pairwise (le := fun x y => x.1 < y.1) (fun a b _ _ h1 h2 => absurd h1 (Int.not_lt.mpr (Int.le_of_lt h2))) hs' hs (hq.trans hp.symm)
  rw [e]
theorem allPs_len {n : Nat} : ∀ {ps : List Int}, ps ∈ allPs n → ps.length = n := by
  induction n with
  | zero => intro ps h; simp [allPs] at h; simp [h]
  | succ n ih =>
    intro ps h
    simp only [allPs, List.mem_flatMap] at h
    obtain ⟨q, hq, h⟩ := h
    have := ih hq
    simp at h
    rcases h with rfl | rfl | rfl <;> simp [this]
theorem allPs_mem : ∀ {ps : List Int}, (∀ q ∈ ps, 0 ≤ q ∧ q < 3) → ps ∈ allPs ps.length
  | [], _ => .head _
  | p :: ps, h => by
    have ih := allPs_mem fun q hq => h q (.tail _ hq)
    obtain ⟨h0, h3⟩ := h p (.head _)
    simp only [List.length_cons, allPs, List.mem_flatMap]
    refine ⟨ps, ih, ?_⟩
    have : p = 0 ∨ p = 1 ∨ p = 2 := by omega
    rcases this with rfl | rfl | rfl <;> simp
theorem pw_ne {l : List (Int × Int)} (h : l.Pairwise fun x y => x.1 < y.1) : (l.map (·.1)).Nodup := by
  rw [List.Nodup, List.pairwise_map]
  exact h.imp fun h => Int.ne_of_lt h
abbrev MvOk (ds : List Nat) (ps : List Int) : Prop := mvAll (tri ds ps).1 (tri ds ps).2.1 (tri ds ps).2.2 3 = (movesP ps).map (tri ds) ∧
    (mvAll (tri ds ps).1 (tri ds ps).2.1 (tri ds ps).2.2 3).length = (if ((tri ds ps).1 ++ (tri ds ps).2.1 = [] ∨ (tri ds ps).2.1 ++ (tri ds ps).2.2 = [] ∨ (tri ds ps).2.2 ++ (tri ds ps).1 = []) then 2 else 3)
theorem mvOk_map {cs : List Nat} {ps : List Int} {f : Nat → Nat} (hf : Mono cs f) (h : MvOk cs ps) : MvOk (cs.map f) ps := by
  obtain ⟨h1, h2⟩ := h
  have e : mvAll (tri (cs.map f) ps).1 (tri (cs.map f) ps).2.1 (tri (cs.map f) ps).2.2 3 = (mvAll (tri cs ps).1 (tri cs ps).2.1 (tri cs ps).2.2 3).map (mapTri f) := by
    rw [tri_map]
    exact mvAll_map hf (fun d hd => sel_mem hd) (fun d hd => sel_mem hd) (fun d hd => sel_mem hd) 3
  refine ⟨?_, ?_⟩
  · rw [e, h1, List.map_map]
    refine List.map_congr_left fun p _ => ?_
    exact (tri_map cs p).symm
  · rw [e, List.length_map, h2, tri_map]
    simp only [mapTri, List.append_eq_nil_iff, List.map_eq_nil_iff]
abbrev Good (n : Nat) (ds : List Nat) (ps : List Int) : Prop := MvOk ds ps ∧ (sorts ds ps).Perm (prsOf (tri ds ps).1 (tri ds ps).2.1 (tri ds ps).2.2) ∧ (sorts ds ps).Pairwise (fun x y => x.1 < y.1) ∧ (tri ds ps).1.length ≤ 4 ∧ (tri ds ps).2.1.length ≤ 4 ∧ (tri ds ps).2.2.length ≤ 4 ∧
  (prsOf (tri ds ps).1 (tri ds ps).2.1 (tri ds ps).2.2).length = n
theorem allPs_in {n : Nat} : ∀ {ps : List Int}, ps ∈ allPs n → ∀ q ∈ ps, 0 ≤ q ∧ q < 3 := by
  induction n with
  | zero => intro ps h q hq; simp [allPs] at h; simp [h] at hq
  | succ n ih =>
    intro ps h q hq
    simp only [allPs, List.mem_flatMap] at h
    obtain ⟨r, hr, h⟩ := h
    simp only [List.mem_cons, List.not_mem_nil, or_false] at h
    rcases h with rfl | rfl | rfl <;> (rcases List.mem_cons.mp hq with rfl | hq <;> first | exact ih hr q hq | omega)
theorem good_of {n : Nat} {ds : List Nat} {ps : List Int} (hn : n = 3 ∨ n = 4) (hds : ds ∈ allDs n) (hps : ps ∈ allPs n) : Good n ds ps := by
  have hpl := allPs_len hps
  have key : ds.length = n ∧ (ds.Pairwise fun x y => tokOf x < tokOf y) ∧ MvOk ds ps := by
    rcases hn with rfl | rfl
    · obtain ⟨h1, h2, h3⟩ := ds3_ok ds hds
      refine ⟨(disc3 ds hds).1, h1, ?_⟩
      have := mvOk_map (f := letOf ds) h3 (rank3 ps hps)
      rw [h2] at this; exact this
    · obtain ⟨h1, h2, h3⟩ := ds4_ok ds hds
      refine ⟨(disc4 ds hds).1, h1, ?_⟩
      have := mvOk_map (f := letOf ds) h3 (rank4 ps hps)
      rw [h2] at this; exact this
  obtain ⟨k1, k2, k3⟩ := key
  have hp := sorts_perm (ds := ds) (ps := ps) (by omega) (allPs_in hps)
  have h4 : ds.length ≤ 4 := by omega
  refine ⟨k3, hp, sorts_up k2, Nat.le_trans sel_short h4, Nat.le_trans sel_short h4, Nat.le_trans sel_short h4, ?_⟩
  rw [← hp.length_eq]
  simp only [sorts, List.length_zip, List.length_map]
  omega
section
variable {n : Nat} {ds : List Nat} {ps : List Int} {goal : Int}
theorem chk_ok (hn : n = 3 ∨ n = 4) (hd : ∀ d ∈ ds, d ∈ [43, 45, 42, 47, 124, 38, 60, 62, 61]) (hl : ds.length = n) (hps : ps ∈ allPs n) (h : Good n ds ps) :
    TriOk (tri ds ps) ∧ FarIs (tri ds ps) goal (farP ps goal) ∧ mvAll (tri ds ps).1 (tri ds ps).2.1 (tri ds ps).2.2 3 = (movesP ps).map (tri ds) ∧
      (mvAll (tri ds ps).1 (tri ds ps).2.1 (tri ds ps).2.2 3).length = (if ((tri ds ps).1 ++ (tri ds ps).2.1 = [] ∨ (tri ds ps).2.1 ++ (tri ds ps).2.2 = [] ∨ (tri ds ps).2.2 ++ (tri ds ps).1 = []) then 2 else 3) ∧ ∃ s : List (Int × Int), s.Perm (prsOf (tri ds ps).1 (tri ds ps).2.1 (tri ds ps).2.2) ∧ s.Pairwise (fun x y => x.1 < y.1) := by
  obtain ⟨⟨h1, h8⟩, h2, h3, h4, h5, h6, h7⟩ := h
  have hnd : ((prsOf (tri ds ps).1 (tri ds ps).2.1 (tri ds ps).2.2).map (·.1)).Nodup := (h2.map (·.1)).nodup_iff.mp (pw_ne h3)
  refine ⟨⟨h4, h5, h6, fun d hm => hd d (sel_mem hm), fun d hm => hd d (sel_mem hm), fun d hm => hd d (sel_mem hm), by rw [h7]; exact hn, ?_⟩, ?_, h1, h8, _, h2, h3⟩
  · intro i j hi hj hij e
    have hi' : i < ((prsOf (tri ds ps).1 (tri ds ps).2.1 (tri ds ps).2.2).map (·.1)).length := by simpa using hi
    have hj' : j < ((prsOf (tri ds ps).1 (tri ds ps).2.1 (tri ds ps).2.2).map (·.1)).length := by simpa using hj
    rw [List.getD_eq_getElem?_getD, List.getD_eq_getElem?_getD, List.getElem?_eq_getElem hi', List.getElem?_eq_getElem hj', Option.getD_some, Option.getD_some] at e
    have hq := List.pairwise_iff_getElem.mp hnd
    rcases Nat.lt_trichotomy i j with h | h | h
    · exact hq i j hi' hj' h e
    · exact hij h
    · exact hq j i hj' hi' h e.symm
  · have := far_is (goal := goal) h2 h3
    rw [sorts_far (by rw [hl, allPs_len hps])] at this
    exact this
theorem path_is (hn : n = 3 ∨ n = 4) (hd : ∀ d ∈ ds, d ∈ [43, 45, 42, 47, 124, 38, 60, 62, 61]) (hl : ds.length = n) (hc : ∀ ps ∈ allPs n, Good n ds ps) (hs : ∀ ps ∈ allPs n, stepChk n ps goal = true) :
    ∀ (f : Nat) (ps : List Int), ps ∈ allPs n → farP ps goal = f → Path goal (tri ds ps) f (tri ds (List.replicate n goal))
  | 0, ps, hps, hf => by
    have h := hs ps hps
    simp only [stepChk, hf] at h
    simp at h
    rw [← h]
    exact .done
  | f + 1, ps, hps, hf => by
    have h := hs ps hps
    simp only [stepChk, Bool.and_eq_true] at h
    have h := h.2
    rw [if_neg (by omega)] at h
    simp only [Bool.and_eq_true, List.all_eq_true, decide_eq_true_eq] at h
    obtain ⟨ha, hb⟩ := h
    obtain ⟨p, hp⟩ := List.length_eq_one_iff.mp hb
    have hpm : p ∈ movesP ps ∧ farP p goal - farP ps goal = -1 := by
      have : p ∈ (movesP ps).filter fun p => decide (farP p goal - farP ps goal = -1) := by rw [hp]; exact .head _
      simpa using this
    have hpa : ∀ p ∈ movesP ps, p ∈ allPs n := fun p hp => by have := (ha p hp).2; simpa using this
    have C := chk_ok (goal := goal) hn hd hl hps (hc ps hps)
    have C' : ∀ p ∈ movesP ps, _ := fun p hm => chk_ok (goal := goal) hn hd hl (hpa p hm) (hc p (hpa p hm))
    have hF : ∀ p ∈ movesP ps, Classical.epsilon (FarIs (tri ds p) goal) = farP p goal := by
      intro p hm
      obtain ⟨_, c2, _, _, s, c5, c6⟩ := C' p hm
      have := Classical.epsilon_spec (p := FarIs (tri ds p) goal) ⟨_, c2⟩
      rw [← this s c5 c6, ← c2 s c5 c6]
    refine .step (ms := tri ds p) ⟨C.1, fun M' => Classical.epsilon (FarIs M' goal), ?_, C.2.2.2.1, ?_⟩ (path_is hn hd hl hc hs f p (hpa p hpm.1) (by omega))
    · rw [C.2.2.1]
      intro M' hM
      obtain ⟨p', hp', rfl⟩ := List.mem_map.mp hM
      have c := C' p' hp'
      have b := (ha p' hp').1
      simp only [hF p' hp']
      exact ⟨c.1, c.2.1, by omega, by omega⟩
    · rw [C.2.2.1, List.filter_map]
      have e : (movesP ps).filter ((fun M' => decide (Classical.epsilon (FarIs M' goal) - ((f : Int) + 1) = -1)) ∘ tri ds) = (movesP ps).filter fun p => decide (farP p goal - farP ps goal = -1) := by
        refine List.filter_congr fun p hm => ?_
        simp only [Function.comp, hF p hm, hf]
        rfl
      rw [e, hp]
      rfl
end
theorem plain_law {n : Nat} {ds : List Nat} {ps : List Int} {goal : Int} (hn : n = 3 ∨ n = 4) (hds : ds ∈ allDs n) (hpl : ps.length = n) (hps : ∀ q ∈ ps, 0 ≤ q ∧ q < 3) (hg : 0 ≤ goal ∧ goal < 3) :
    ∃ f : Nat, TriOk (tri ds ps) ∧ FarIs (tri ds ps) goal f ∧ Path goal (tri ds ps) f (tri ds (List.replicate n goal)) := by
  have hpm : ps ∈ allPs n := hpl ▸ allPs_mem hps
  have hgm : goal ∈ [(0 : Int), 1, 2] := by
    have : goal = 0 ∨ goal = 1 ∨ goal = 2 := by omega
    rcases this with rfl | rfl | rfl <;> simp
  have key : (∀ d ∈ ds, d ∈ [43, 45, 42, 47, 124, 38, 60, 62, 61]) ∧ ds.length = n ∧ (∀ ps ∈ allPs n, Good n ds ps) ∧ (∀ ps ∈ allPs n, stepChk n ps goal = true) := by
    rcases hn with rfl | rfl
    · exact ⟨(disc3 ds hds).2, (disc3 ds hds).1, fun ps h => good_of (.inl rfl) hds h, fun ps h => step3 ps h goal hgm⟩
    · exact ⟨(disc4 ds hds).2, (disc4 ds hds).1, fun ps h => good_of (.inr rfl) hds h, fun ps h => step4 ps h goal hgm⟩
  obtain ⟨k1, k2, k3, k4⟩ := key
  have C := chk_ok (goal := goal) hn k1 k2 hpm (k3 ps hpm)
  have h0 : 0 ≤ farP ps goal := by
    have h := k4 ps hpm
    simp only [stepChk, Bool.and_eq_true, decide_eq_true_eq] at h
    exact h.1
  obtain ⟨f, hf⟩ := Int.eq_ofNat_of_zero_le h0
  exact ⟨f, C.1, hf ▸ C.2.1, path_is hn k1 k2 k3 k4 f ps hpm hf⟩
end
end Mine
namespace Mine
section
theorem reset_MStart : True := by
  first | (walk1; done) | skip
  w_top off
  exact True.intro
theorem pick_K {prog : Program} {w : World} {A : Around} {E : Value → Shared → Prop} {s : Shared} {Q : Value → Shared → Prop} {value slice : PySem.Expr} {k : Int} {t u : Tok} (h0 : 0 ≤ k) (h9 : k < 9) (h : Q (.str (T [dcode k.toNat]) s.toks) { s with toks := s.toks + 1 })
    (hs : subscripted slice false (.str (Str.ofString "+-*/|&<>=") t) (.int k u) = operate [.str (Str.ofString "+-*/|&<>=") t, .int k u] (getItem (.str (Str.ofString "+-*/|&<>=") t) (.int k u))) :
    wpAny (model prog w) A (subscriptTail value slice (.str (Str.ofString "+-*/|&<>=") t) (.int k u)) Q E s := by
  refine tail_any (typeIs_str s _ t) F.slot_str_getitem.lookup (P.getItem_str (c := dcode k.toNat) ?_ ?_ h) hs
  · have e1 : decide (k < -(2 ^ 63 : Int)) = false := decide_eq_false (by omega)
    have e2 : decide (k ≥ 2 ^ 63) = false := decide_eq_false (by omega)
    rw [e1, e2]; rfl
  · have : k = 0 ∨ k = 1 ∨ k = 2 ∨ k = 3 ∨ k = 4 ∨ k = 5 ∨ k = 6 ∨ k = 7 ∨ k = 8 := by omega
    rcases this with rfl | rfl | rfl | rfl | rfl | rfl | rfl | rfl | rfl <;> decide +kernel
def Ltr (d : Nat) (v : Value) : Prop := ∃ t, v = .str (T [d]) t
def Num (q : Int) (v : Value) : Prop := ∃ t, v = .int q t
abbrev tup4 (l p : Addr) (goal : Int) (tg : Tok) (x : Str) (tn : Tok) : Obj := { cls := .type "tuple", data := .seq #[.ref l, .ref p, .int goal tg, .str x tn] }
structure StartOk (n : Nat) (ds : List Nat) (ps : List Int) (goal : Int) (nt : List Nat) : Prop where
  ds : ds ∈ allDs n
  pl : ps.length = n
  ps : ∀ q ∈ ps, 0 ≤ q ∧ q < 3
  g0 : 0 ≤ goal
  g3 : goal < 3
  nl : nt.length ≤ 10
  nb : ∀ d ∈ nt, d < 256
def StartIs (n : Nat) (g h : Heap) (v : Value) : Prop :=
  ∃ (D l p : Addr) (xs ys : List Value) (ds : List Nat) (ps : List Int) (goal : Int) (nt : List Nat) (tg tn : Tok) (kl kp : Nat), v = .ref D ∧ (g.get? D = none ∧ h.get? D = some (tup4 l p goal tg (T (39 :: nt)) tn)) ∧ (g.get? l = none ∧ h.get? l = some (listOf xs.toArray kl)) ∧
    (g.get? p = none ∧ h.get? p = some (listOf ys.toArray kp)) ∧ PySem.Paired Ltr ds xs ∧ PySem.Paired Num ps ys ∧ StartOk n ds ps goal nt
theorem ints_num : ∀ {ys : List Value} {ps : List Int}, IntsAre ys ps → PySem.Paired Num ps ys
  | _, _, .nil => .nil
  | _, _, .cons n t h => .cons ⟨t, rfl⟩ (ints_num h)
theorem pow3_ne (n : Nat) : ¬ ((3 : Int) ^ n = 0) := Int.ne_of_gt (Int.pow_pos (by omega))
theorem fm3 (x : Int) : 0 ≤ x.fmod 3 ∧ x.fmod 3 < 3 := ⟨Int.fmod_nonneg_of_pos x (by omega), Int.fmod_lt_of_pos x (by omega)⟩
theorem fm2 (k x : Int) : k + (1 + x.fmod 2) = k + 1 ∨ k + (1 + x.fmod 2) = k + 2 := by
  have h1 := Int.fmod_nonneg_of_pos x (b := 2) (by omega)
  have h2 := Int.fmod_lt_of_pos x (b := 2) (by omega)
  omega
theorem ds4 {k0 k1 k2 k3 : Int} (h0 : 0 ≤ k0 ∧ k0 < 3) (h1 : k1 = k0 + 1 ∨ k1 = k0 + 2) (h2 : k2 = k1 + 1 ∨ k2 = k1 + 2) (h3 : k3 = k2 + 1 ∨ k3 = k2 + 2) : [dcode k0.toNat, dcode k1.toNat, dcode k2.toNat, dcode k3.toNat] ∈ allDs 4 := by
  have h : k0 = 0 ∨ k0 = 1 ∨ k0 = 2 := by omega
  rcases h1 with rfl | rfl <;> rcases h2 with rfl | rfl <;> rcases h3 with rfl | rfl <;> rcases h with rfl | rfl | rfl <;> decide +kernel
theorem ds3 {k0 k1 k2 : Int} (h0 : 0 ≤ k0 ∧ k0 < 3) (h1 : k1 = k0 + 1 ∨ k1 = k0 + 2) (h2 : k2 = k1 + 1 ∨ k2 = k1 + 2) : [dcode k0.toNat, dcode k1.toNat, dcode k2.toNat] ∈ allDs 3 := by
  have h : k0 = 0 ∨ k0 = 1 ∨ k0 = 2 := by omega
  rcases h1 with rfl | rfl <;> rcases h2 with rfl | rfl <;> rcases h with rfl | rfl | rfl <;> decide +kernel
def NoteOk (x : Str) : Prop := ∃ nt : List Nat, x = T (39 :: nt) ∧ nt.length ≤ 10 ∧ ∀ d ∈ nt, d < 256
theorem note0 : NoteOk (Str.ofString "'") := ⟨[], by decide +kernel, by decide, by decide⟩
theorem note1 : NoteOk (Str.ofString "''") := ⟨[39], by decide +kernel, by decide, by decide⟩
theorem note2 : NoteOk (Str.ofString "'%41'") := ⟨[37, 52, 49, 39], by decide +kernel, by decide, by decide⟩
theorem note3 : NoteOk (Str.ofString "'%41") := ⟨[37, 52, 49], by decide +kernel, by decide, by decide⟩
section
variable {g h : Heap} {L D l p : Addr} {k0 k1 k2 k3 a b : Int} {t0 t1 t2 t3 tg tn : Tok} {x : Str} {kl kp : Nat} {ys : List Value} {rest : List (Addr × Obj)} {o1 o2 : Addr × Obj}
theorem pegs_ok {ns : List Int} {n : Nat} (e : ns = ((rangeKs 0 n).map fun k' => if ¬ (3 : Int) ^ k'.toNat = 0 then (a.fdiv (3 ^ k'.toNat)).fmod 3 else k')) : ns.length = n ∧ ∀ q ∈ ns, 0 ≤ q ∧ q < 3 := by
  subst e
  refine ⟨by simp [rangeKs], fun q hq => ?_⟩
  obtain ⟨k, _, rfl⟩ := List.mem_map.mp hq
  rw [if_pos (pow3_ne _)]
  exact fm3 _
theorem start_end4 (N : News g L h ((D, tup4 l p (b.fmod 3) tg x tn) :: o1 :: (p, listOf ys.toArray kp) :: o2 :: (l, listOf #[.str (T [dcode k0.toNat]) t0, .str (T [dcode k1.toNat]) t1, .str (T [dcode k2.toNat]) t2, .str (T [dcode k3.toNat]) t3] kl) :: rest))
    (hx : NoteOk x) (hy : IntsAre ys ((rangeKs 0 4).map fun k' => if ¬ (3 : Int) ^ k'.toNat = 0 then (a.fdiv (3 ^ k'.toNat)).fmod 3 else k'))
    (h0 : 0 ≤ k0 ∧ k0 < 3) (h1 : k1 = k0 + 1 ∨ k1 = k0 + 2) (h2 : k2 = k1 + 1 ∨ k2 = k1 + 2) (h3 : k3 = k2 + 1 ∨ k3 = k2 + 2) : StartIs 4 g h (.ref D) := by
  obtain ⟨nt, rfl, hn, hb⟩ := hx
  obtain ⟨p1, p2⟩ := pegs_ok (n := 4) (a := a) rfl
  exact ⟨D, l, p, _, ys, _, _, b.fmod 3, nt, tg, tn, kl, kp, rfl, ⟨(N _ (.head _)).2.2, (N _ (.head _)).1⟩, ⟨(N _ (.tail _ (.tail _ (.tail _ (.tail _ (.head _)))))).2.2, (N _ (.tail _ (.tail _ (.tail _ (.tail _ (.head _)))))).1⟩,
    ⟨(N _ (.tail _ (.tail _ (.head _)))).2.2, (N _ (.tail _ (.tail _ (.head _)))).1⟩, .cons ⟨_, rfl⟩ (.cons ⟨_, rfl⟩ (.cons ⟨_, rfl⟩ (.cons ⟨_, rfl⟩ .nil))), ints_num hy, ⟨ds4 h0 h1 h2 h3, p1, p2, (fm3 b).1, (fm3 b).2, hn, hb⟩⟩
theorem start_end3 (N : News g L h ((D, tup4 l p (b.fmod 3) tg x tn) :: o1 :: (p, listOf ys.toArray kp) :: o2 :: (l, listOf #[.str (T [dcode k0.toNat]) t0, .str (T [dcode k1.toNat]) t1, .str (T [dcode k2.toNat]) t2] kl) :: rest))
    (hx : NoteOk x) (hy : IntsAre ys ((rangeKs 0 3).map fun k' => if ¬ (3 : Int) ^ k'.toNat = 0 then (a.fdiv (3 ^ k'.toNat)).fmod 3 else k'))
    (h0 : 0 ≤ k0 ∧ k0 < 3) (h1 : k1 = k0 + 1 ∨ k1 = k0 + 2) (h2 : k2 = k1 + 1 ∨ k2 = k1 + 2) : StartIs 3 g h (.ref D) := by
  obtain ⟨nt, rfl, hn, hb⟩ := hx
  obtain ⟨p1, p2⟩ := pegs_ok (n := 3) (a := a) rfl
  exact ⟨D, l, p, _, ys, _, _, b.fmod 3, nt, tg, tn, kl, kp, rfl, ⟨(N _ (.head _)).2.2, (N _ (.head _)).1⟩, ⟨(N _ (.tail _ (.tail _ (.tail _ (.tail _ (.head _)))))).2.2, (N _ (.tail _ (.tail _ (.tail _ (.tail _ (.head _)))))).1⟩,
    ⟨(N _ (.tail _ (.tail _ (.head _)))).2.2, (N _ (.tail _ (.tail _ (.head _)))).1⟩, .cons ⟨_, rfl⟩ (.cons ⟨_, rfl⟩ (.cons ⟨_, rfl⟩ .nil)), ints_num hy, ⟨ds3 h0 h1 h2, p1, p2, (fm3 b).1, (fm3 b).2, hn, hb⟩⟩
end
local macro_rules | `(tactic| walk_at "subscriptTail") => `(tactic| (k_here; (with_reducible show wpAny _ _ (subscriptTail _ _ (Value.str (PySem.Str.ofString "+-*/|&<>=") _) (Value.int _ _)) _ _ _); k_dflt (refine' pick_K ?h0 ?h9 ?_ ?hs; (case h0 => l_bnd); (case h9 => l_bnd); (case hs => with_unfolding_all rfl); k_whole)))
theorem spec_start4 (w : World) (number : Int) (t u : Tok) : Spec 36 640 500 w [.int number t, .int 4 u] (fun _ => True) (StartIs 4) := by
  have kf : Mine.hd.heap_39 w.params = Mine.hd.heap_39 w.params ∧ PySem.Challenge.rw_ph0074_01 = PySem.Challenge.rw_ph0074_01 := by (k_fill; exact ⟨rfl, rfl⟩)
  clear kf
  k_dflt (refine' spec_enterC ?k6 ?k7 ?k8 ?k9 ?kB ?kD ?c2 ?c3 ?c4 ?pre ?_; (case k6 => k_is); (case k7 => k_is); (case k8 => decide); (case k9 => exact rfl); (case kB => exact rfl); (case kD => decide +kernel); (case c2 => exact rfl); (case c3 => exact rfl); (case c4 => exact rfl); (case pre => (intro _ _ _ h; exact h)))
  intro gd env outer base g L' h₁ mean mg mb s tk cells F' N' Y' B' X' T' hpre
  k_cells Y'
  (try simp only [List.cons_append, List.nil_append] at N')
  (try k_unmd); k_fold
  k_steps
  · exfalso
    rename (3 : Int) ^ _ = 0 => h0
    exact pow3_ne _ h0
  all_goals ((try dsimp only); (try k_unfold); (try dsimp only))
  all_goals (rename Fr _ _ _ _ => F9; rename News _ _ _ _ => N9; rename IntsAre _ _ => hy)
  · exact FinQ.intro F9 (start_end4 N9 note0 hy (fm3 _) (fm2 _ _) (fm2 _ _) (fm2 _ _))
  · exact FinQ.intro F9 (start_end4 N9 note1 hy (fm3 _) (fm2 _ _) (fm2 _ _) (fm2 _ _))
  · exact FinQ.intro F9 (start_end4 N9 note2 hy (fm3 _) (fm2 _ _) (fm2 _ _) (fm2 _ _))
  · exact FinQ.intro F9 (start_end4 N9 note3 hy (fm3 _) (fm2 _ _) (fm2 _ _) (fm2 _ _))
theorem spec_start3 (w : World) (number : Int) (t u : Tok) : Spec 36 640 500 w [.int number t, .int 3 u] (fun _ => True) (StartIs 3) := by
  have kf : Mine.hd.heap_39 w.params = Mine.hd.heap_39 w.params ∧ PySem.Challenge.rw_ph0074_01 = PySem.Challenge.rw_ph0074_01 := by (k_fill; exact ⟨rfl, rfl⟩)
  clear kf
  k_dflt (refine' spec_enterC ?k6 ?k7 ?k8 ?k9 ?kB ?kD ?c2 ?c3 ?c4 ?pre ?_; (case k6 => k_is); (case k7 => k_is); (case k8 => decide); (case k9 => exact rfl); (case kB => exact rfl); (case kD => decide +kernel); (case c2 => exact rfl); (case c3 => exact rfl); (case c4 => exact rfl); (case pre => (intro _ _ _ h; exact h)))
  intro gd env outer base g L' h₁ mean mg mb s tk cells F' N' Y' B' X' T' hpre
  k_cells Y'
  (try simp only [List.cons_append, List.nil_append] at N')
  (try k_unmd); k_fold
  k_steps
  · exfalso
    rename (3 : Int) ^ _ = 0 => h0
    exact pow3_ne _ h0
  all_goals ((try dsimp only); (try k_unfold); (try dsimp only))
  all_goals (rename Fr _ _ _ _ => F9; rename News _ _ _ _ => N9; rename IntsAre _ _ => hy)
  · exact FinQ.intro F9 (start_end3 N9 note0 hy (fm3 _) (fm2 _ _) (fm2 _ _))
  · exact FinQ.intro F9 (start_end3 N9 note1 hy (fm3 _) (fm2 _ _) (fm2 _ _))
  · exact FinQ.intro F9 (start_end3 N9 note2 hy (fm3 _) (fm2 _ _) (fm2 _ _))
  · exact FinQ.intro F9 (start_end3 N9 note3 hy (fm3 _) (fm2 _ _) (fm2 _ _))
section
variable {w : World} {A A₀ : Around} {env : Env} {outer : List Env} {E : Value → Shared → Prop} {s : Shared} {h₀ base : Heap} {L : Addr} {m mg mb : Str → Option Value} {mean : ExcName → Option Value} {news : List (Addr × Obj)} {Q : Value → Shared → Prop}
def AllNe3 (D l p : Nat) : List (Addr × Obj) → Prop
  | [] => True
  | q :: qs => ((@Ne Nat D q.1) ∧ (@Ne Nat l q.1) ∧ (@Ne Nat p q.1)) ∧ AllNe3 D l p qs
theorem allNe3_of {D l p : Addr} : ∀ {news : List (Addr × Obj)}, (∀ q ∈ news, D ≠ q.1 ∧ l ≠ q.1 ∧ p ≠ q.1) → AllNe3 D l p news
  | [], _ => trivial
  | q :: _, h => ⟨h q (.head _), allNe3_of fun q hq => h q (.tail _ hq)⟩
theorem use_start {number : Int} {n : Nat} {t u : Tok} {nn : Int} (hn : nn = n) (hn3 : n = 3 ∨ n = 4) (PA : Pre6 A env outer L 640 500) (PB : Pre5 A₀ base outer h₀ L m mean mg mb s.heap w news)
    (h : ∀ (D l p : Addr) (xs ys : List Value) (ds : List Nat) (ps : List Int) (goal : Int) (nt : List Nat) (tg tn : Tok) (kl kp : Nat) h' tk, PySem.Paired Ltr ds xs → PySem.Paired Num ps ys → StartOk n ds ps goal nt → Fr h₀ L h' m →
      News h₀ L h' ((D, tup4 l p goal tg (T (39 :: nt)) tn) :: (l, listOf xs.toArray kl) :: (p, listOf ys.toArray kp) :: news) → AllNe3 D l p news → Q (.ref D) { s with heap := h', toks := tk }) :
    wpAny (model PySem.Challenge.rw_ph0074_01.row.prog w) A (call (.ref 36) [.int number t, .int nn u]) Q E s := by
  subst hn
  have H : Spec 36 640 500 w [.int number t, .int (n : Int) u] (fun _ => True) (StartIs n) := by
    rcases hn3 with rfl | rfl
    · exact spec_start3 w number t u
    · exact spec_start4 w number t u
  obtain ⟨hh, hA, hf, hke, hd, hu⟩ := PA
  obtain ⟨B, F, X, T', N⟩ := PB
  refine H A env outer A₀ base h₀ L m mean mg mb s Q E hh hA hf hke hd hu B F X T' trivial ?_
  rintro v h' tk' k ⟨D, l, p, xs, ys, ds, ps, goal, nt, tg, tn, kl, kp, rfl, ⟨d1, d2⟩, ⟨l1, l2⟩, ⟨p1, p2⟩, hx, hy, ok⟩
  refine h D l p xs ys ds ps goal nt tg tn kl kp h' tk' hx hy ok (F.keeps k) (fun q hq => ?_) (allNe3_of fun q hq => ⟨(news_ne N d1 q hq).symm, (news_ne N l1 q hq).symm, (news_ne N p1 q hq).symm⟩)
  rcases List.mem_cons.mp hq with rfl | hq
  · exact news_add F N k d1 d2 _ (.head _)
  rcases List.mem_cons.mp hq with rfl | hq
  · exact news_add F N k l1 l2 _ (.head _)
  · exact news_add F N k p1 p2 q hq
end
end
end Mine
namespace Mine
section
theorem reset_MHeap : True := by
  first | (walk1; done) | skip
  w_top off
  exact True.intro
section
variable {prog : Program} {w : World} {A : Around} {E : Value → Shared → Prop} {env : Env}
abbrev cell0 : Obj := { cls := .type "cell", data := .cell none }
def StrAt (X : Nat → List Nat) (j : Nat) (v : Value) : Prop := ∃ t, v = .str (T (X j)) t
theorem comp_cell {elt iter0 : Expr} {x0 : Str} {p0 : Pos} {scope : Scope} {cl : List (Str × Addr)} {pos : Pos} {s₂ : Shared} {I : Nat} {P : Nat → Value → Prop} {St : Nat → Heap → Prop} (X : Nat → List Nat) {use : Option (Value → Sem Unit)} {Q : Value → Shared → Prop}
    (W : Walks prog w A I [I] [I] 3 P St) (hP : ∀ i v, P i v → ∃ t, v = .int i t) (hst : St 0 s₂.heap) (hI : @LT.lt Nat _ I s₂.heap.objs.size)
    (hcf : ∀ n acc, cellsFrom n scope.names acc = (x0, n) :: acc) (hpc : ∀ h, pushCells h scope.names = h.push cell0) (hkind : scope.kind = .function) (hx0 : ∀ C cs, (compEnvC scope cs C env).kindOf x0 = some .cell)
    (helt : ∀ C (k : Nat) t s', k < 3 → s'.heap.IsCell (C + 1) (some (.int k t)) → (∀ b o, b ≠ I → s₂.heap.get? b = some o → s'.heap.get? b = some o) →
      wpAny (model prog w) A (eval elt (compEnvC scope ((x0, C + 1) :: cl) C env)) (fun y s'' => ∃ h'' tk'' u, y = .str (T (X k)) u ∧ s'' = { s' with heap := h'', toks := tk'' } ∧ Sub s'.heap h'') NoE s')
    (hQ : ∀ D C its n h' tk m', s₂.heap.get? D = none → s₂.heap.get? C = none → D ≠ C → h'.Ns C m' → h'.get? D = some (listOf its.toArray n) → PySem.Paired (StrAt X) (List.range 3) its → (∀ b o, b ≠ I → s₂.heap.get? b = some o → h'.get? b = some o) →
      compPost (model prog w) A E use Q (.ref D) C (.ok .next) { s₂ with heap := h', toks := tk }) :
    wpAny (model prog w) A (newList []) (fun acc s₃ => wpAny (model prog w) A (newFunctionEnv scope env.globals cl [] env.qual none .none (some env)) (fun cenv s₄ =>
      codeAny (model prog w) A (.compStart (.ListComp elt [⟨.Name x0 p0, iter0, [], 0⟩] scope pos) 0 (.ref I) acc { cenv with scope := relabel scope env }) (compPost (model prog w) A E use Q acc cenv.locals) s₄) E s₃) E s₂ := by
  refine wpAny_newObj_type ?_
  (try dsimp only)
  simp only [newFunctionEnv, Option.isSome_some, if_true]
  refine wpAny_bind (wpAny_alloc ?_)
  refine wpAny_bind (wpAny_layCells _ (fun name kind cells => by cases hkc : kind == NameKind.cell <;> simp [hkc]) _ _ _ _ ?_)
  rw [List.forIn_nil]
  refine wpAny_bind (wpAny_pure (wpAny_pure ?_))
  rw [hcf, hpc]
  dsimp only
  generalize hH2 : s₂.heap.push { cls := .type "list", dict := none, data := .seq ([] : List Value).toArray } = H2
  have hC : H2.objs.size = s₂.heap.objs.size + 1 := by rw [← hH2, Heap.size_push]
  obtain ⟨D, hD⟩ : ∃ D : Nat, D = s₂.heap.objs.size := ⟨_, rfl⟩
  obtain ⟨C, hCe⟩ : ∃ C : Nat, C = H2.objs.size := ⟨_, rfl⟩
  have hns₀ : (H2.push { cls := .type "dict", data := .dict #[] }).Ns H2.objs.size _ := Heap.Ns.new H2 (.type "dict")
  generalize hH3 : H2.push { cls := .type "dict", data := .dict #[] } = H3 at hns₀ ⊢
  have hC3 : H3.objs.size = H2.objs.size + 1 := by rw [← hH3, Heap.size_push]
  rw [hC3, ← hCe, ← hD]
  rw [← hCe] at hns₀ hC hC3
  have ltDC : @LT.lt Nat _ D C := by omega
  have hI' : @LT.lt Nat _ I D := by omega
  have hDC : D ≠ C := Nat.ne_of_lt ltDC
  have hID : I ≠ D := Nat.ne_of_lt hI'
  have hIC : I ≠ C := Nat.ne_of_lt (Nat.lt_trans hI' ltDC)
  have ltC1 : @LT.lt Nat _ C (C + 1) := Nat.lt_succ_self C
  have nDC1 : D ≠ C + 1 := Nat.ne_of_lt (Nat.lt_trans ltDC ltC1)
  have nIC1 : I ≠ C + 1 := Nat.ne_of_lt (Nat.lt_trans hI' (Nat.lt_trans ltDC ltC1))
  have nCC1 : C ≠ C + 1 := Nat.ne_of_lt ltC1
  have ltD : ∀ (b : Nat) o, s₂.heap.get? b = some o → @LT.lt Nat _ b D := fun b o e => hD ▸ Heap.lt_size e
  have fresh : ∀ a : Nat, D ≤ a → s₂.heap.get? a = none := fun a ha => by
    cases e : s₂.heap.get? a with
    | none => rfl
    | some o' => exact absurd (ltD a o' e) (Nat.not_lt.mpr ha)
  generalize hH4 : H3.push cell0 = h₁
  have old : ∀ b o, s₂.heap.get? b = some o → h₁.get? b = some o := fun b o e => hH4 ▸ Heap.get?_push_of_some _ (hH3 ▸ Heap.get?_push_of_some _ (hH2 ▸ Heap.get?_push_of_some _ e))
  have hacc : h₁.get? D = some (listOf #[] 0) := hH4 ▸ Heap.get?_push_of_some _ (hH3 ▸ Heap.get?_push_of_some _ (hH2 ▸ hD ▸ Heap.get?_push_size _ rfl))
  have hns₁ : h₁.Ns C _ := hH4 ▸ hns₀.push _
  have hcl₁ : h₁.IsCell (C + 1) none := ⟨cell0, by rw [← hH4, ← hC3]; exact Heap.get?_push_size _ rfl, rfl⟩
  have hst₁ : St 0 h₁ := W.frame _ _ _ hst fun b _ o e => old b o e
  have loop : ∀ s₃ : Shared, s₃ = { s₂ with heap := h₁ } →
      codeAny (model prog w) A (.compLoop (.ListComp elt [⟨.Name x0 p0, iter0, [], 0⟩] scope pos) 0 (.ref I) (.ref D) (compEnvC scope ((x0, C + 1) :: cl) C env)) (compPost (model prog w) A E use Q (.ref D) C) s₃ := by
    rintro s₃ rfl
    refine comp_loop (iter := iter0) (x := x0) (px := p0) _ 3 (fun i s' => ∃ h tk m its n v, s' = { s₂ with heap := h, toks := tk } ∧ St i h ∧ h.Ns C m ∧ h.IsCell (C + 1) v ∧ h.get? D = some (listOf its.toArray n) ∧ PySem.Paired (StrAt X) (List.range i) its ∧ (∀ b o, b ≠ I → s₂.heap.get? b = some o → h.get? b = some o))
      (turn_one0 ..) ?_ ?_ ⟨h₁, _, _, [], 0, none, rfl, hst₁, hns₁, hcl₁, hacc, .nil, fun b o _ e => old b o e⟩
    · rintro i s' hi ⟨h, tk, m, its, n, v0, rfl, st, ns, hc, hd, tp, kp⟩
      refine W.item i _ _ _ hi st fun v h2 tk2 hv st2 k2 => ?_
      obtain ⟨t, rfl⟩ := hP i v hv
      have k2' : ∀ b o, b ≠ I → h.get? b = some o → h2.get? b = some o := fun b o hb e => k2 b o (fun hm => hb (List.mem_singleton.mp hm)) e
      obtain ⟨oc, hoc, hcd⟩ := hc
      refine wpAny_assign_Name (wpAny_storeName_cell (c := C + 1) hkind (hx0 ..) (by simp [compEnvC]) ⟨oc, k2' _ _ nIC1.symm hoc, hcd⟩ fun h3 hc3 sb3 => ?_)
      change Heap.SameBut (C + 1) h2 h3 at sb3
      have kp3 : ∀ b o, b ≠ I → s₂.heap.get? b = some o → h3.get? b = some o := fun b o hb e => sb3.extBut b o (Nat.ne_of_lt (Nat.lt_trans (ltD b o e) (Nat.lt_trans ltDC ltC1))) (k2' b o hb (kp b o hb e))
      have hd3 : h3.get? D = some (listOf its.toArray n) := sb3.extBut _ _ nDC1 (k2' _ _ (Ne.symm hID) hd)
      have ns3 : h3.Ns C m := (ns.at' fun o e => k2' C o (Ne.symm hIC) e).sameBut sb3 nCC1
      have st3 : St (i + 1) h3 := W.frame _ _ _ st2 fun b hb o e => sb3.extBut b o (by rw [List.mem_singleton.mp hb]; exact nIC1) e
      have hlen : its.length ≤ 100 := by
        have e1 := tp.length
        simp only [List.length_range] at e1
        omega
      refine wpAny_bind (wpAny_bind (wpAny_mono (helt C i t _ hi hc3 kp3) (fun y s'' hy => ?_) fun _ _ x => x))
      obtain ⟨h6, tk6, u, rfl, rfl, sub⟩ := hy
      dsimp only at sub
      have hd6 : h6.PlainList D its.toArray := ⟨n, sub _ _ hd3⟩
      refine wpAny_bind (wpAny_list_append_plain (hsz := by rw [List.size_toArray, PySem.sizeLine_eq]; omega) hd6 fun h7 hl7 sb7 => ?_)
      obtain ⟨n7, hl7⟩ := hl7
      refine wpAny_pure (wpAny_pure ⟨rfl, h7, _, _, its ++ [.str (T (X i)) u], n7, _, rfl, ?_, (ns3.keeps sub).sameBut sb7 (Ne.symm hDC), (hc3.keeps sub).sameBut sb7 nDC1.symm, by simpa using hl7, ?_, fun b o hb e => sb7.extBut b o (Nat.ne_of_lt (ltD b o e)) (sub _ _ (kp3 b o hb e))⟩)
      · refine W.frame _ _ _ st3 fun b hb o e => ?_
        rw [List.mem_singleton.mp hb] at e ⊢
        exact sb7.extBut I o hID (sub _ _ e)
      · rw [List.range_succ]
        exact tp.snoc ⟨u, rfl⟩
    · rintro s' ⟨h, tk, m, its, n, v0, rfl, st, ns, hc, hd, tp, kp⟩
      refine W.done _ _ _ st fun h2 tk2 k2 => ?_
      have k2' : ∀ b o, b ≠ I → h.get? b = some o → h2.get? b = some o := fun b o hb e => k2 b o (fun hm => hb (List.mem_singleton.mp hm)) e
      exact hQ D C its n h2 tk2 m (fresh D (Nat.le_refl _)) (fresh C (by omega)) hDC (ns.at' fun o e => k2' C o (Ne.symm hIC) e) (k2' _ _ (Ne.symm hID) hd) tp (fun b o hb e => k2' b o hb (kp b o hb e))
  exact codeAny_compStart_list (loop _ rfl) (W.self 0 _ _ _ hst₁ (loop _ rfl))
theorem assign_comp {s : Shared} {elt iter : Expr} {x y : Str} {px py : Pos} {ifs : List Expr} {scope : Scope} {cl : List (Str × Addr)} {pos spos : Pos} {Q : Flow → Shared → Prop}
    (hsw : swapsWith (.ListComp elt [⟨.Name x px, iter, ifs, 0⟩] scope pos) (some (.Name y py)) spos.line env = pure true)
    (hclos : closureFor scope env = pure cl) (hkind : scope.kind = .function)
    (hnames : ∀ z ∈ scope.names, z.2 = .local → scope.names.lookup z.1 = some .local)
    (hs : ∀ x, foldedSetIterable iter env x = pure x)
    (h : wpAny (model prog w) A (eval iter env) (fun xv s₁ => wpAny (model prog w) A (pyIter xv) (fun it s₂ => wpAny (model prog w) A (newList []) (fun acc s₃ => wpAny (model prog w) A (newFunctionEnv scope env.globals cl [] env.qual none .none (some env)) (fun cenv s₄ =>
      codeAny (model prog w) A (.compStart (.ListComp elt [⟨.Name x px, iter, ifs, 0⟩] scope pos) 0 it acc { cenv with scope := relabel scope env }) (compPost (model prog w) A E (some (assign (.Name y py) env)) (fun _ s' => Q .next s') acc cenv.locals) s₄) E s₃) E s₂) E s₁) E s) :
    wpAny (model prog w) A (exec (.Assign [.Name y py] (.ListComp elt [⟨.Name x px, iter, ifs, 0⟩] scope pos) spos) env) Q E s := by
  rw [exec_Assign_Name_used _ _ _ _ hsw]
  refine wpAny_bind (wpAny_standAt (wpAny_bind ?_))
  show wpAny _ A (do let _ ← comprehension (.ListComp elt [⟨.Name x px, iter, ifs, 0⟩] scope pos) scope env _ (newList []) false (eval iter env) (some (assign (.Name y py) env))) _ _ s
  exact wpAny_bind (wpAny_mono (wpAny_comprehension_free (use := some (assign (.Name y py) env)) (Q := fun _ s' => Q .next s') rfl hs hclos hkind hnames h) (fun _ s' hq => wpAny_pure (wpAny_pure hq)) fun _ _ e => e)
end
end
end Mine
namespace Mine
section
theorem reset_MSel : True := by
  first | (walk1; done) | skip
  w_top off
  exact True.intro
theorem paired_at {α β : Type} {R : α → β → Prop} : ∀ {l : List α} {vs : List β} {i : Nat} {a : α}, PySem.Paired R l vs → l[i]? = some a → ∃ v, vs[i]? = some v ∧ R a v
  | _, _, 0, a, .cons h _, e => ⟨_, rfl, by simp at e; exact e ▸ h⟩
  | _, _, i + 1, a, .cons _ t, e => by
    have := paired_at (i := i) t (by simpa using e)
    simpa using this
  | _, _, _, _, .nil, e => by simp at e
def PkV (pd : Nat → Int) (k : Int) (v : Value) : Bool := match v with
  | .int i _ => decide (pd i.toNat = k)
  | _ => false
def SelV (dd : Nat → Nat) (v y : Value) : Prop := ∃ i t u, v = Value.int i t ∧ y = Value.str (T [dd i.toNat]) u
theorem sel_paired {dd : Nat → Nat} {pd : Nat → Int} {k : Int} : ∀ {vs : List Value} {a : Nat} {ds : List Nat} {ps : List Int} {ys : List Value}, ds.length = vs.length → ps.length = vs.length → (∀ j v, vs[j]? = some v → ∃ t, v = Value.int ((a + j : Nat) : Int) t) →
    (∀ j, j < vs.length → ds[j]? = some (dd (a + j)) ∧ ps[j]? = some (pd (a + j))) → PySem.Paired (SelV dd) (vs.filter (PkV pd k)) ys → PySem.Paired Ltr (sel ds ps k) ys
  | [], a, [], [], ys, _, _, _, _, h => by
    cases h
    exact .nil
  | v :: vs, a, d :: ds, p :: ps, ys, h1, h2, h3, h4, h => by
    obtain ⟨t, rfl⟩ := h3 0 v rfl
    obtain ⟨e1, e2⟩ := h4 0 (by simp)
    simp at e1 e2
    subst e1 e2
    have ih := @sel_paired dd pd k vs (a + 1) ds ps
    have ih' : ∀ {ys : List Value}, PySem.Paired (SelV dd) (vs.filter (PkV pd k)) ys → PySem.Paired Ltr (sel ds ps k) ys := fun {ys} hh =>
      ih (by simpa using h1) (by simpa using h2) (fun j v hv => by have := h3 (j + 1) v (by simpa using hv); rw [show a + 1 + j = a + (j + 1) by omega]; exact this) (fun j hj => by have := h4 (j + 1) (by simpa using hj); rw [show a + 1 + j = a + (j + 1) by omega]; simpa using this) hh
    have hp : PkV pd k (Value.int ((a + 0 : Nat) : Int) t) = decide (pd a = k) := rfl
    by_cases hk : pd a = k
    · rw [List.filter_cons_of_pos (by rw [hp]; simpa using hk)] at h
      cases h with
      | cons hh ht =>
        obtain ⟨i, t', u, e, rfl⟩ := hh
        injection e with e e'
        subst e
        simp only [sel, if_pos hk]
        exact .cons ⟨u, rfl⟩ (ih' ht)
    · rw [List.filter_cons_of_neg (by rw [hp]; simpa using hk)] at h
      simp only [sel, if_neg hk]
      exact ih' h
theorem sel_len {k : Int} : ∀ {ds : List Nat} {ps : List Int}, (sel ds ps k).length ≤ ds.length
  | [], _ => by simp [sel]
  | _ :: _, [] => by simp [sel]
  | _ :: ds, _ :: ps => by
    have := @sel_len k ds ps
    simp only [sel]
    split <;> simp <;> omega
theorem ltr_strs : ∀ {ds : List Nat} {vs : List Value}, PySem.Paired Ltr ds vs → StrsAre vs (ds.map fun d => T [d])
  | _, _, .nil => .nil
  | _, _, .cons ⟨t, e⟩ h => e ▸ .cons _ t (ltr_strs h)
theorem join_letters : ∀ l : List Nat, Txt.join (Str.ofString "") (l.map fun d => T [d]) = T l := by
  intro l
  show Builtin.Str.glued _ _ = _
  rw [StrLaws.glued_eq_join, empty_is]
  induction l with
  | nil => rfl
  | cons d l ih =>
    cases l with
    | nil => rfl
    | cons e l =>
      show T [d] ++ T [] ++ Str.join (T []) ((e :: l).map fun d => T [d]) = _
      rw [ih, T_app, T_app]
      rfl
section
variable {prog : Program} {w : World} {A : Around} {E : Value → Shared → Prop} {s : Shared} {Q : Value → Shared → Prop}
theorem joinL_K {D : Addr} {l : List Nat} {vs : List Value} {t : Tok} (hl : s.heap.IsList D vs.toArray) (hv : PySem.Paired Ltr l vs) (hn : l.length ≤ 100) (h : ∀ t' k, Q (.str (T l) t') { s with toks := k }) :
    wpAny (model prog w) A (call (.builtin "str.join") [.str (Str.ofString "") t, .ref D]) Q E s := by
  refine join_listC hl (ltr_strs hv) (by decide) ?_ (fun t' k => ?_)
  · have e : ((l.map fun d => T [d]).map (·.length)).sum = l.length := by
      clear hv hn h
      induction l with
      | nil => rfl
      | cons d l ih => simp only [List.map_cons, List.sum_cons, ih, T_len, List.length_cons, List.length_nil]; omega
    rw [e, List.length_map]
    omega
  · rw [join_letters]; exact h t' k
theorem itemP_K {α : Type} {R : α → Value → Prop} {value slice : PySem.Expr} {l : Addr} {as : List α} {vs : List Value} {k : Int} {u : Tok} {a : α} (hl : s.heap.IsList l vs.toArray) (hv : PySem.Paired R as vs) (h0 : 0 ≤ k) (h9 : k < 100) (ha : as[k.toNat]? = some a) (h : ∀ v, R a v → Q v s)
    (hs : subscripted slice false (.ref l) (.int k u) = operate [.ref l, .int k u] (getItem (.ref l) (.int k u))) :
    wpAny (model prog w) A (subscriptTail value slice (.ref l) (.int k u)) Q E s := by
  obtain ⟨v, e, r⟩ := paired_at hv ha
  exact tail_any hl.typeIs slot_list_getitem.lookup (wpAny_getItem_list hl h0 (by omega) (by simpa using e) (h v r)) hs
theorem lenP_K {α : Type} {R : α → Value → Prop} {l : Addr} {as : List α} {vs : List Value} (hl : s.heap.IsList l vs.toArray) (hv : PySem.Paired R as vs) (h9 : as.length ≤ 100) (h : Q (.int as.length (s.toks + 1)) { s with toks := s.toks + 1 + 1 }) :
    wpAny (model prog w) A (call (.builtin "len") [.ref l]) Q E s := by
  have e : vs.toArray.size = as.length := by rw [List.size_toArray, hv.length]
  exact len_list hl (by rw [e]; omega) (by rw [e]; exact h)
theorem Walks.bounded {I : Addr} {fp wr : List Addr} {n : Nat} {P : Nat → Value → Prop} {St : Nat → Heap → Prop} (W : Walks prog w A I fp wr n P St) : Walks prog w A I fp wr n (fun i v => i < n ∧ P i v) St where
  sub := W.sub
  frame := W.frame
  item := fun i s Q E hi st hQ => W.item i s Q E hi st fun v h' tk hv => hQ v h' tk ⟨hi, hv⟩
  done := W.done
  self := W.self
theorem range_n (n : Nat) : Builtin.Range.rangeSize 0 (n : Int) 1 = n := by
  unfold Builtin.Range.rangeSize
  rw [if_pos (by decide)]
  split <;> omega
theorem range_small (n : Nat) (h : n ≤ 50) : Builtin.Range.small 0 (n : Int) 1 = true := by
  exact small_one (by omega) (by omega) (by omega) (by omega)
theorem inner_comp {cenv : Env} {scope : Scope} {cl : List (Str × Addr)} {iter : PySem.Expr} {pos p1 p2 p3 p4 p5 p6 p7 p8 p9 : Pos} {l p c1 c2 c3 : Addr} {xs ys : List Value} {ds : List Nat} {ps : List Int} {k : Int} {t : Tok} (hh : A.handled = none)
    (hclos : closureFor scope cenv = pure cl) (hcell : ∀ y ∈ scope.names, y.2 ≠ .cell) (hkind : scope.kind = .function) (hnames : ∀ y ∈ scope.names, y.2 = .local → scope.names.lookup y.1 = some .local) (hx : scope.names.lookup (Str.ofString "k") = some .local)
    (hkd : ∀ C, (compEnvC scope cl C cenv).kindOf (Str.ofString "discs") = some .cell) (hkw : ∀ C, (compEnvC scope cl C cenv).kindOf (Str.ofString "where") = some .cell) (hkp : ∀ C, (compEnvC scope cl C cenv).kindOf (Str.ofString "peg") = some .cell)
    (hc1 : cl.lookup (Str.ofString "discs") = some c1) (hc2 : cl.lookup (Str.ofString "where") = some c2) (hc3 : cl.lookup (Str.ofString "peg") = some c3)
    (v1 : s.heap.IsCell c1 (some (.ref l))) (v2 : s.heap.IsCell c2 (some (.ref p))) (v3 : s.heap.IsCell c3 (some (.int k t))) (hl : s.heap.IsList l xs.toArray) (hp : s.heap.IsList p ys.toArray) (hX : PySem.Paired Ltr ds xs) (hY : PySem.Paired Num ps ys)
    (hlen : ps.length = ds.length) (h9 : ds.length ≤ 50)
    (hiter : ∀ Q' : Value → Shared → Prop, (∀ r h' tk t u v, Sub s.heap h' → IsRange h' r 0 ds.length 1 t u v → Q' (.ref r) { s with heap := h', toks := tk }) → wpAny (model prog w) A (eval iter cenv) Q' E s)
    (hs : ∀ x, foldedSetIterable iter cenv x = pure x)
    (hQ : ∀ D h' tk zs, Sub s.heap h' → h'.IsList D zs.toArray → PySem.Paired Ltr (sel ds ps k) zs → Q (.ref D) { s with heap := h', toks := tk }) :
    wpAny (model prog w) A (eval (.ListComp (.Subscript (.Name (Str.ofString "discs") p1) (.Name (Str.ofString "k") p2) p3) [⟨.Name (Str.ofString "k") p4, iter, [.Compare (.Subscript (.Name (Str.ofString "where") p5) (.Name (Str.ofString "k") p6) p7) [.Eq] [.Name (Str.ofString "peg") p8] p9], 0⟩] scope pos) cenv) Q E s := by
  refine wpAny_ListComp_free (PkV (fun i => ps.getD i 0) k) (SelV fun i => ds.getD i 0) hclos hcell hkind hnames hx (hiter _ fun r h' tk t' u' v' sub hr => ?_) hs
  refine wpAny_pyIter_range hr (range_small _ h9) ?_
  rw [range_n]
  have sub1 : Sub s.heap _ := fun b o e => Heap.get?_push_of_some { cls := .type "range_iterator", data := .fields #[rawInt 0, rawInt (ds.length : Int), rawInt 1] } (sub b o e)
  have hlt : ∀ b o, s.heap.get? b = some o → @LT.lt Nat _ b h'.objs.size := fun b o e => Heap.lt_size (sub b o e)
  refine ⟨_, _, _, ds.length, _, _, rfl, Walks.bounded (Walks.range hh _ 0 1 ds.length), by rw [sizeLine_eq]; omega, ?_, ?_, ⟨?_, ?_⟩, ?_⟩
  · show IsRangeIter _ _ _ _ _
    rw [show (0 : Int) + ((0 : Nat) : Int) * 1 = 0 by rfl, show (ds.length : Int) - ((0 : Nat) : Int) = ds.length by omega]
    exact Heap.get?_push_size _ rfl
  · intro b hb
    rw [List.mem_singleton.mp hb]
    show @LT.lt Nat _ _ (Heap.push _ _).objs.size
    rw [Heap.size_push]
    exact Nat.lt_succ_self _
  · rintro C i v s₃ m₃ E' hC ⟨hi, u, rfl⟩ ns mx kp htk
    have sub3 : Sub s.heap s₃.heap := fun b o e => kp b o (fun hm => by rw [List.mem_singleton.mp hm] at e; exact Nat.lt_irrefl _ (hlt _ _ e)) (sub1 b o e)
    have hi' : ((0 : Int) + i * 1).toNat = i := by omega
    refine wpAny_tests_one (wpAny_isTrue_Compare1 (Subscript_ (wpAny_Name (wpAny_loadName_cell hkind (hkw C) hc2 (v2.keeps sub3) (wpAny_Name (wpAny_loadName_local hkind (lookup_relabel_local hx) ns mx ?_) (by decide))) (by decide))))
    refine itemP_K (hp.at fun o e => sub3 _ _ e) hY (by omega) (by omega) (a := ps.getD i 0) (by rw [hi', List.getD_eq_getElem?_getD, List.getElem?_eq_getElem (by omega)]; rfl) (fun v ⟨tv, hv⟩ => ?_) (by with_unfolding_all rfl)
    subst hv
    refine wpAny_Name (wpAny_loadName_cell hkind (hkp C) hc3 (v3.keeps sub3) (eq_int (wpAny_truthy_bool ?_))) (by decide)
    refine ⟨?_, s₃.heap, s₃.toks, rfl, fun _ _ e => e⟩
    show _ = decide (ps.getD ((0 : Int) + i * 1).toNat 0 = k)
    rw [hi']
    rw [Bool.eq_iff_iff, beq_iff_eq, decide_eq_true_iff]
  · rintro C i v s₃ m₃ E' hC ⟨hi, u, rfl⟩ _ ns mx kp htk
    have sub3 : Sub s.heap s₃.heap := fun b o e => kp b o (fun hm => by rw [List.mem_singleton.mp hm] at e; exact Nat.lt_irrefl _ (hlt _ _ e)) (sub1 b o e)
    have hi' : ((0 : Int) + i * 1).toNat = i := by omega
    refine Subscript_ (wpAny_Name (wpAny_loadName_cell hkind (hkd C) hc1 (v1.keeps sub3) (wpAny_Name (wpAny_loadName_local hkind (lookup_relabel_local hx) ns mx ?_) (by decide))) (by decide))
    refine itemP_K (hl.at fun o e => sub3 _ _ e) hX (by omega) (by omega) (a := ds.getD i 0) (by rw [hi', List.getD_eq_getElem?_getD, List.getElem?_eq_getElem (by omega)]; rfl) (fun v ⟨tv, hv⟩ => ?_) (by with_unfolding_all rfl)
    subst hv
    exact ⟨⟨_, _, _, rfl, by rw [hi']⟩, s₃.heap, s₃.toks, rfl, fun _ _ e => e⟩
  · intro D h2 tk2 zs vs hD hl2 _ hvl hP hF kp
    have sub3 : Sub s.heap h2 := fun b o e => kp b o (fun hm => by rw [List.mem_singleton.mp hm] at e; exact Nat.lt_irrefl _ (hlt _ _ e)) (sub1 b o e)
    refine hQ D h2 tk2 zs.toList sub3 (by simpa using hl2) (sel_paired (a := 0) (by omega) (by omega) (fun j v hv => ?_) (fun j hj => ?_) hF)
    · obtain ⟨_, u, e⟩ := hP j v hv
      exact ⟨u, by rw [e]; congr 1; omega⟩
    · rw [Nat.zero_add]
      refine ⟨?_, ?_⟩
      · rw [List.getD_eq_getElem?_getD, List.getElem?_eq_getElem (by omega)]; rfl
      · rw [List.getD_eq_getElem?_getD, List.getElem?_eq_getElem (by omega)]; rfl
theorem heaps_post {env : Env} {h₀ h1 h' : Heap} {m m' : Str → Option Value} {news : List (Addr × Obj)} {D C : Addr} {o : Obj} {y : Str} {py : Pos} {tk : Nat} {L : Addr} (hL : env.locals = L) (F : Fr h₀ L h1 m) (N : News h₀ L h1 news) (sub : Sub h1 h') (d1 : h1.get? D = none) (c1 : h1.get? C = none) (dc : D ≠ C)
    (ns : h'.Ns C m') (hd : h'.get? D = some o) (hy : env.kindOf y = some .local) (hp : (env.scope.kind == .class || (env.scope.kind == .module && env.locals != env.globals)) = false)
    (h : ∀ h3, Fr h₀ L h3 (fun z => if z = y then some (.ref D) else m z) → News h₀ L h3 ((D, o) :: news) → (∀ p ∈ news, p.1 ≠ D) → Q .none { s with heap := h3, toks := tk + 1 }) :
    compPost (model prog w) A E (some (assign (.Name y py) env)) Q (.ref D) C (.ok .next) { s with heap := h', toks := tk } := by
  subst hL
  show wpAny _ _ (assign (.Name y py) env (.ref D)) (fun _ s'' => ∃ m, s''.heap.Ns C m ∧ ∀ h', Heap.SameBut C s''.heap h' → Q .none { s'' with heap := h' }) _ _
  have hLC : env.locals ≠ C := by
    intro e
    obtain ⟨o, _, _, ho, _⟩ := F.ns
    rw [e, c1] at ho; cases ho
  have N3 := news_add F N sub d1 hd
  refine wpAny_assign_Name (wpAny_storeName_local hy (F.keeps sub).ns (fun h2 hn2 hs2 => ?_) hp)
  refine ⟨m', ns.sameBut hs2 (Ne.symm hLC), fun h3 hs3 => ?_⟩
  change Heap.SameBut _ h' h2 at hs2
  change Heap.SameBut _ h2 h3 at hs3
  refine h h3 ⟨hn2.sameBut hs3 hLC, fun b o e => ?_, F.above⟩ (fun p hp => ?_) (news_ne N d1)
  · have e1 := F.keep b o e
    exact hs3.extBut b o (fun q => by rw [q, c1] at e1; cases e1) (hs2.extBut b o (fun q => by rw [q] at e; exact absurd (Heap.lt_size e) (Nat.not_lt.mpr F.above)) (sub _ _ e1))
  · have z := N3 p hp
    refine ⟨hs3.extBut _ _ (fun q => ?_) (hs2.extBut _ _ z.2.1 z.1), z.2⟩
    rcases List.mem_cons.mp hp with e | hp
    · rw [e] at q; exact dc q
    · have := (N p hp).1; rw [q, c1] at this; cases this
end
theorem strAt3 {X : Nat → List Nat} {its : List Value} (h : PySem.Paired (StrAt X) (List.range 3) its) : ∃ t0 t1 t2, its = [.str (T (X 0)) t0, .str (T (X 1)) t1, .str (T (X 2)) t2] := by
  have e : List.range 3 = [0, 1, 2] := rfl
  rw [e] at h
  cases h with | cons h0 h => cases h with | cons h1 h => cases h with | cons h2 h => cases h with | nil =>
    obtain ⟨t0, rfl⟩ := h0
    obtain ⟨t1, rfl⟩ := h1
    obtain ⟨t2, rfl⟩ := h2
    exact ⟨t0, t1, t2, rfl⟩
theorem dsLen {n : Nat} {ds : List Nat} {ps : List Int} {goal : Int} {nt : List Nat} (ok : StartOk n ds ps goal nt) (hn : n = 3 ∨ n = 4) : ds.length = n ∧ ps.length = n ∧ n ≤ 4 := by
  rcases hn with rfl | rfl
  · exact ⟨(disc3 _ ok.ds).1, ok.pl, by decide⟩
  · exact ⟨(disc4 _ ok.ds).1, ok.pl, by decide⟩
theorem push_none {h : Heap} {o : Obj} {x : Addr} (e : (h.push o).get? x = none) : h.get? x = none := Sub.none (fun b o' e => Heap.get?_push_of_some _ e) e
theorem cell_of {h₀ h : Heap} {L c : Addr} {o : Obj} {v : Value} {news : List (Addr × Obj)} (N : News h₀ L h news) (hm : (c, o) ∈ news) (hd : o.data = .cell (some v)) : h.IsCell c (some v) := ⟨o, (N _ hm).1, hd⟩
theorem list_of {h₀ h : Heap} {L c : Addr} {vs : List Value} {n : Nat} {news : List (Addr × Obj)} (N : News h₀ L h news) (hm : (c, listOf vs.toArray n) ∈ news) : h.IsList c vs.toArray := ⟨_, (N _ hm).1, rfl, n, rfl⟩
inductive InHeap : Prop
  | mk
theorem inHeap : InHeap := .mk
end
end Mine
namespace Mine
section
theorem reset_MEnd : True := by
  first | (walk1; done) | skip
  w_top off
  exact True.intro
section
variable {prog : Program} {w : World} {A : Around} {E : Value → Shared → Prop} {s : Shared} {Q : Value → Shared → Prop}
def EndV (ds : List Nat) (goal : Int) (v y : Value) : Prop := ∃ i t u, v = Value.int i t ∧ y = Value.str (T (if i = goal then ds else [])) u
theorem end3 {ds : List Nat} {goal : Int} {vs : List Value} {zs : List Value} (hl : vs.length = 3) (hP : ∀ (j : Nat) v, vs[j]? = some v → ∃ t, v = Value.int j t) (h : PySem.Paired (EndV ds goal) vs zs) :
    ∃ u0 u1 u2, zs = [.str (T (if (0 : Int) = goal then ds else [])) u0, .str (T (if (1 : Int) = goal then ds else [])) u1, .str (T (if (2 : Int) = goal then ds else [])) u2] := by
  obtain ⟨v0, v1, v2, rfl⟩ := len3 hl
  obtain ⟨t0, rfl⟩ := hP 0 v0 rfl
  obtain ⟨t1, rfl⟩ := hP 1 v1 rfl
  obtain ⟨t2, rfl⟩ := hP 2 v2 rfl
  cases h with | cons h0 h => cases h with | cons h1 h => cases h with | cons h2 h => cases h with | nil =>
    obtain ⟨i0, a0, u0, e0, rfl⟩ := h0
    obtain ⟨i1, a1, u1, e1, rfl⟩ := h1
    obtain ⟨i2, a2, u2, e2, rfl⟩ := h2
    injection e0 with e0 _
    injection e1 with e1 _
    injection e2 with e2 _
    subst e0 e1 e2
    exact ⟨u0, u1, u2, rfl⟩
theorem end_comp {cenv : Env} {scope : Scope} {cl : List (Str × Addr)} {iter body orelse : PySem.Expr} {pos p1 p2 p3 p4 p5 : Pos} {c1 : Addr} {ds : List Nat} {goal : Int} {t : Tok} (hh : A.handled = none)
    (hclos : closureFor scope cenv = pure cl) (hcell : ∀ y ∈ scope.names, y.2 ≠ .cell) (hkind : scope.kind = .function) (hnames : ∀ y ∈ scope.names, y.2 = .local → scope.names.lookup y.1 = some .local) (hx : scope.names.lookup (Str.ofString "peg") = some .local)
    (hkg : ∀ C, (compEnvC scope cl C cenv).kindOf (Str.ofString "goal") = some .cell) (hc1 : cl.lookup (Str.ofString "goal") = some c1)
    (v1 : s.heap.IsCell c1 (some (.int goal t)))
    (hiter : ∀ Q' : Value → Shared → Prop, (∀ r h' tk t u v, Sub s.heap h' → IsRange h' r 0 3 1 t u v → Q' (.ref r) { s with heap := h', toks := tk }) → wpAny (model prog w) A (eval iter cenv) Q' E s)
    (hbody : ∀ C s₃ E', Sub s.heap s₃.heap → wpAny (model prog w) A (eval body (compEnvC scope cl C cenv)) (fun y s₄ => ∃ u, y = .str (T ds) u ∧ Keeps s₃ s₄) E' s₃)
    (horelse : ∀ C s₃ E', Sub s.heap s₃.heap → wpAny (model prog w) A (eval orelse (compEnvC scope cl C cenv)) (fun y s₄ => ∃ u, y = .str (T []) u ∧ Keeps s₃ s₄) E' s₃)
    (hs : ∀ x, foldedSetIterable iter cenv x = pure x)
    (hQ : ∀ D h' tk u0 u1 u2, Sub s.heap h' → h'.IsList D #[.str (T (if (0 : Int) = goal then ds else [])) u0, .str (T (if (1 : Int) = goal then ds else [])) u1, .str (T (if (2 : Int) = goal then ds else [])) u2] → Q (.ref D) { s with heap := h', toks := tk }) :
    wpAny (model prog w) A (eval (.ListComp (.IfExp (.Compare (.Name (Str.ofString "peg") p1) [.Eq] [.Name (Str.ofString "goal") p2] p3) body orelse p4) [⟨.Name (Str.ofString "peg") p5, iter, [], 0⟩] scope pos) cenv) Q E s := by
  refine wpAny_ListComp_free (fun _ => true) (EndV ds goal) hclos hcell hkind hnames hx (hiter _ fun r h' tk t' u' v' sub hr => ?_) hs
  refine wpAny_pyIter_range hr (range_small 3 (by decide)) ?_
  rw [show Builtin.Range.rangeSize 0 3 1 = ((3 : Nat) : Int) from range_n 3]
  have sub1 : Sub s.heap _ := fun b o e => Heap.get?_push_of_some { cls := .type "range_iterator", data := .fields #[rawInt 0, rawInt ((3 : Nat) : Int), rawInt 1] } (sub b o e)
  have hlt : ∀ b o, s.heap.get? b = some o → @LT.lt Nat _ b h'.objs.size := fun b o e => Heap.lt_size (sub b o e)
  refine ⟨_, _, _, 3, _, _, rfl, Walks.bounded (Walks.range hh _ 0 1 3), by rw [sizeLine_eq]; omega, ?_, ?_, ⟨?_, ?_⟩, ?_⟩
  · show IsRangeIter _ _ _ _ _
    rw [show (0 : Int) + ((0 : Nat) : Int) * 1 = 0 by rfl, show ((3 : Nat) : Int) - ((0 : Nat) : Int) = ((3 : Nat) : Int) by omega]
    exact Heap.get?_push_size _ rfl
  · intro b hb
    rw [List.mem_singleton.mp hb]
    show @LT.lt Nat _ _ (Heap.push _ _).objs.size
    rw [Heap.size_push]
    exact Nat.lt_succ_self _
  · rintro C i v s₃ m₃ E' hC _ ns mx kp htk
    exact wpAny_tests_nil ⟨rfl, s₃.heap, s₃.toks, rfl, fun _ _ e => e⟩
  · rintro C i v s₃ m₃ E' hC ⟨hi, u, rfl⟩ _ ns mx kp htk
    have sub3 : Sub s.heap s₃.heap := fun b o e => kp b o (fun hm => by rw [List.mem_singleton.mp hm] at e; exact Nat.lt_irrefl _ (hlt _ _ e)) (sub1 b o e)
    refine wpAny_IfExp (wpAny_isTrue_Compare1 (wpAny_Name (wpAny_loadName_local hkind (lookup_relabel_local hx) ns mx (wpAny_Name (wpAny_loadName_cell hkind (hkg C) hc1 (v1.keeps sub3) (eq_int (wpAny_truthy_bool ?_))) (by decide))) (by decide)))
    split
    · rename_i hb
      rw [beq_iff_eq] at hb
      refine wpAny_mono (hbody C s₃ E' sub3) (fun y s₄ ⟨u', e, k⟩ => ⟨⟨_, _, u', rfl, ?_⟩, k⟩) fun _ _ e => e
      rw [e, if_pos hb]
    · rename_i hb
      rw [beq_iff_eq] at hb
      refine wpAny_mono (horelse C s₃ E' sub3) (fun y s₄ ⟨u', e, k⟩ => ⟨⟨_, _, u', rfl, ?_⟩, k⟩) fun _ _ e => e
      rw [e, if_neg hb]
  · intro D h2 tk2 zs vs hD hl2 _ hvl hP hF kp
    have sub3 : Sub s.heap h2 := fun b o e => kp b o (fun hm => by rw [List.mem_singleton.mp hm] at e; exact Nat.lt_irrefl _ (hlt _ _ e)) (sub1 b o e)
    rw [List.filter_eq_self.mpr (fun _ _ => rfl)] at hF
    obtain ⟨u0, u1, u2, e⟩ := end3 hvl (fun j v hv => by obtain ⟨_, u, e⟩ := hP j v hv; exact ⟨u, by rw [e]; congr 1; omega⟩) hF
    refine hQ D h2 tk2 u0 u1 u2 sub3 ?_
    have : zs = zs.toList.toArray := by simp
    rw [this, e] at hl2
    exact hl2
theorem sel_all {goal k : Int} : ∀ (ds : List Nat), sel ds (List.replicate ds.length goal) k = if k = goal then ds else []
  | [] => by simp [sel]
  | d :: ds => by
    have ih := @sel_all goal k ds
    rw [List.length_cons, List.replicate_succ]
    simp only [sel, ih]
    by_cases h : k = goal
    · simp [h]
    · simp [h, Ne.symm h]
end
section
variable {w : World} {A A₀ : Around} {env : Env} {outer : List Env} {E : Value → Shared → Prop} {s : Shared} {h₀ base : Heap} {L : Addr} {m mg mb : Str → Option Value} {mean : ExcName → Option Value} {news : List (Addr × Obj)} {Q : Value → Shared → Prop}
theorem use_walked {M e : Tri} {l : Addr} {goal : Int} {f k : Nat} {nt : List Nat} {ta tb tc tg tn : Tok} (PA : Pre6 A env outer L 610 470) (PB : Pre5 A₀ base outer h₀ L m mean mg mb s.heap w news)
    (hm : (l, triObj M ta tb tc k) ∈ news) (ok : TriOk M) (hfar : FarIs M goal f) (hp : Path goal M f e) (hnl : nt.length ≤ 10) (hnt : ∀ d ∈ nt, d < 256)
    (h : ∀ r h' tk t0 t1 t2 n, Fr h₀ L h' m → News h₀ L h' ((r, triObj e t0 t1 t2 n) :: news) → Q (.ref r) { s with heap := h', toks := tk }) :
    wpAny (model PySem.Challenge.rw_ph0074_01.row.prog w) A (call (.ref 69) [.ref l, .int goal tg, .str (T (39 :: nt)) tn]) Q E s := by
  obtain ⟨hh, hA, hf, hke, hd, hu⟩ := PA
  obtain ⟨B, F, X, T', N⟩ := PB
  refine spec_walked w l M e nt ta tb tc tg tn k goal f ok hfar hp hnl hnt A env outer A₀ base h₀ L m mean mg mb s Q E hh hA hf hke hd hu B F X T' (N _ hm).1 ?_
  rintro v h' tk' sb ⟨r, t0, t1, t2, n, rfl, hr, o⟩
  refine h r h' tk' t0 t1 t2 n (F.keeps sb) (fun q hq => ?_)
  rcases List.mem_cons.mp hq with rfl | hq
  · rcases hr with rfl | hr
    · exact ⟨o, (N _ hm).2⟩
    · exact news_add F N sb hr o _ (.head _)
  · exact (N.grown sb) q hq
end
abbrev triOf {ds : List Nat} {xs ys : List Value} {ps : List Int} (_ : PySem.Paired Ltr ds xs) (_ : PySem.Paired Num ps ys) : Tri := tri ds ps
abbrev endOf {n : Nat} {ds : List Nat} {ps : List Int} {goal : Int} {nt : List Nat} (_ : StartOk n ds ps goal nt) : Tri := tri ds (List.replicate n goal)
theorem tri_news {h₀ h : Heap} {L D : Addr} {ds : List Nat} {ps : List Int} {t0 t1 t2 : Tok} {n : Nat} {rest : List (Addr × Obj)} {M : Tri} (N : News h₀ L h ((D, listOf #[.str (T (sel ds ps ((0 : Nat) : Int))) t0, .str (T (sel ds ps ((1 : Nat) : Int))) t1, .str (T (sel ds ps ((2 : Nat) : Int))) t2] n) :: rest)) (e : M = tri ds ps) :
    News h₀ L h ((D, triObj M t0 t1 t2 n) :: rest) := by
  subst e; exact N
theorem tup_of {h₀ h : Heap} {L c : Addr} {vs : Array Value} {n : Nat} {news : List (Addr × Obj)} (N : News h₀ L h news) (hm : (c, ({ cls := .type "tuple", data := .seq vs n } : Obj)) ∈ news) : h.IsTuple c vs := ⟨_, (N _ hm).1, rfl, n, rfl⟩
theorem law_plain {n : Nat} {ds : List Nat} {ps : List Int} {goal : Int} {nt : List Nat} {xs ys : List Value} (ok : StartOk n ds ps goal nt) (hX : PySem.Paired Ltr ds xs) (hY : PySem.Paired Num ps ys) (hn : n = 3 ∨ n = 4) :
    ∃ (M e : Tri) (f : Nat), M = triOf hX hY ∧ e = endOf ok ∧ TriOk M ∧ FarIs M goal f ∧ Path goal M f e ∧ TriOk e := by
  obtain ⟨f, h1, h2, h3⟩ := plain_law hn ok.ds ok.pl ok.ps ⟨ok.g0, ok.g3⟩
  obtain ⟨_, h4, _⟩ := plain_law (ps := List.replicate n goal) hn ok.ds (by simp) (fun q hq => by rw [List.eq_of_mem_replicate hq]; exact ⟨ok.g0, ok.g3⟩) ⟨ok.g0, ok.g3⟩
  exact ⟨_, _, f, rfl, rfl, h1, h2, h3, h4⟩
theorem end_list {h : Heap} {D : Addr} {n : Nat} {ds : List Nat} {ps : List Int} {goal : Int} {nt : List Nat} {e : Tri} {u0 u1 u2 : Tok} (ok : StartOk n ds ps goal nt) (hn : n = 3 ∨ n = 4) (eE : e = endOf ok)
    (hl : h.IsList D #[.str (T (if (0 : Int) = goal then ds else [])) u0, .str (T (if (1 : Int) = goal then ds else [])) u1, .str (T (if (2 : Int) = goal then ds else [])) u2]) : h.IsList D #[.str (T e.1) u0, .str (T e.2.1) u1, .str (T e.2.2) u2] := by
  subst eE
  have hl2 := (dsLen ok hn).1
  subst hl2
  show h.IsList D #[.str (T (sel ds _ 0)) u0, .str (T (sel ds _ 1)) u1, .str (T (sel ds _ 2)) u2]
  rw [sel_all, sel_all, sel_all]
  exact hl
theorem note_hx {n : Nat} {ds : List Nat} {ps : List Int} {goal : Int} {nt : List Nat} (_ : StartOk n ds ps goal nt) (M : Tri) : T (M.1 ++ 39 :: (M.2.1 ++ 39 :: M.2.2)) ++ T (39 :: nt) = T (M.1 ++ 39 :: (M.2.1 ++ 39 :: (M.2.2 ++ 39 :: nt))) := by
  rw [T_app]; simp only [List.append_assoc, List.cons_append]
theorem note_len {n : Nat} {ds : List Nat} {ps : List Int} {goal : Int} {nt : List Nat} (_ : StartOk n ds ps goal nt) : (T (39 :: nt)).length = nt.length + 1 := by
  rw [T_len]; rfl
theorem tri_len (M : Tri) : (T (M.1 ++ 39 :: (M.2.1 ++ 39 :: M.2.2))).length = M.1.length + (M.2.1.length + (M.2.2.length + 1) + 1) := by
  rw [T_len]; simp only [List.length_append, List.length_cons]
theorem two_len (M : Tri) : (T (M.1 ++ 39 :: M.2.1)).length = M.1.length + (M.2.1.length + 1) := by
  rw [T_len]; simp only [List.length_append, List.length_cons]
theorem two_split {M : Tri} (ok : TriOk M) : Txt.splitMax (T (M.1 ++ 39 :: M.2.1)) (Str.ofString "'") 2 = [T M.1, T M.2.1] := by
  rw [tick_is]
  refine split_two (fun h => (disc_lt (ok.da _ h)).2 rfl) (fun h => (disc_lt (ok.db _ h)).2 rfl) ?_
  intro x hx
  simp only [List.mem_append, List.mem_cons] at hx
  rcases hx with h | rfl | h
  · exact (disc_lt (ok.da _ h)).1
  · omega
  · exact (disc_lt (ok.db _ h)).1
theorem all_split {M : Tri} {n : Nat} {ds : List Nat} {ps : List Int} {goal : Int} {nt : List Nat} (so : StartOk n ds ps goal nt) (ok : TriOk M) :
    Txt.splitMax (((T (M.1 ++ 39 :: M.2.1) ++ Str.ofString "'") ++ T M.2.2) ++ T (39 :: nt)) (Str.ofString "'") 2 = [T M.1, T M.2.1, T M.2.2 ++ T (39 :: nt)] := by
  rw [tick_is]
  simp only [T_app, List.append_assoc, List.cons_append, List.nil_append]
  refine split_three (fun h => (disc_lt (ok.da _ h)).2 rfl) (fun h => (disc_lt (ok.db _ h)).2 rfl) ?_
  intro x hx
  simp only [List.mem_append, List.mem_cons] at hx
  rcases hx with h | rfl | h | rfl | h | rfl | h
  · exact (disc_lt (ok.da _ h)).1
  · omega
  · exact (disc_lt (ok.db _ h)).1
  · omega
  · exact (disc_lt (ok.dc _ h)).1
  · omega
  · exact so.nb _ h
theorem all_len {M : Tri} {n : Nat} {ds : List Nat} {ps : List Int} {goal : Int} {nt : List Nat} (so : StartOk n ds ps goal nt) (ok : TriOk M) : (((T (M.1 ++ 39 :: M.2.1) ++ Str.ofString "'") ++ T M.2.2) ++ T (39 :: nt)).length ≤ 100 := by
  rw [tick_is]
  simp only [T_app, T_len, List.length_append, List.length_cons, List.length_nil]
  have := ok.la
  have := ok.lb
  have := ok.lc
  have := so.nl
  omega
section
variable {prog : Program} {w : World} {A : Around} {E : Value → Shared → Prop} {s : Shared} {l l' : Addr} {a b c : List Nat} {x y z : Str} {ta tb tc t ta' tb' tc' : Tok} {Q : Value → Shared → Prop}
theorem join2_K (hl : s.heap.IsList l #[.str (T a) ta, .str (T b) tb]) (ha : a.length ≤ 4) (hb : b.length ≤ 4)
    (h : ∀ t' k, Q (.str (T (a ++ 39 :: b)) t') { s with toks := k }) : wpAny (model prog w) A (call (.builtin "str.join") [.str (Str.ofString "'") t, .ref l]) Q E s := by
  refine join_listC hl (.cons _ _ (.cons _ _ .nil)) (by decide) ?_ (fun t' k => ?_)
  · simp only [List.map_cons, List.map_nil, List.sum_cons, List.sum_nil, T_len, List.length_cons, List.length_nil]
    omega
  · have e : Txt.join (Str.ofString "'") [T a, T b] = T (a ++ 39 :: b) := by
      rw [tick_is]
      show Builtin.Str.glued _ _ = _
      rw [StrLaws.glued_eq_join]
      show T a ++ T [39] ++ T b = _
      simp only [T_app]
      simp
    rw [e]; exact h t' k
theorem strEq (x : Str) (t u : Tok) {A : Around} : PySem.SeqAt.EqAt A s (.str x t) (.str x u) true := by
  have := PySem.SeqAt.EqAt.str_str (A := A) (s := s) x t x u
  rw [beq_self_eq_true] at this; exact this
theorem eq3_K (hl : s.heap.IsList l #[.str x ta, .str y tb, .str z tc]) (hl' : s.heap.IsList l' #[.str x ta', .str y tb', .str z tc']) (hu : A.units < cLine)
    (h : Q (.bool true) s) : wpAny (model prog w) A (compareOp .Eq (.ref l) (.ref l')) Q E s := by
  refine PySem.SeqAt.RcAt.lists (e := fun _ => true) hl hl' rfl hu (fun j h1 h2 => ?_) prog w E Q h
  have h1' : j < 3 := h1
  have hj : j = 0 ∨ j = 1 ∨ j = 2 := by omega
  rcases hj with rfl | rfl | rfl
  · exact strEq x ta ta'
  · exact strEq y tb tb'
  · exact strEq z tc tc'
theorem eqt_K (hl : s.heap.IsTuple l #[.none, .none, .str x ta]) (hl' : s.heap.IsTuple l' #[.none, .none, .str x ta']) (hu : A.units < cLine)
    (h : Q (.bool true) s) : wpAny (model prog w) A (compareOp .Eq (.ref l) (.ref l')) Q E s := by
  refine PySem.SeqAt.RcAt.tuples (e := fun _ => true) hl hl' hu (fun j h1 h2 => ?_) prog w E Q h
  have h1' : j < 3 := h1
  have hj : j = 0 ∨ j = 1 ∨ j = 2 := by omega
  rcases hj with rfl | rfl | rfl
  · exact PySem.SeqAt.EqAt.same _
  · exact PySem.SeqAt.EqAt.same _
  · exact strEq x ta ta'
end
section
variable {w : World} {A A₀ : Around} {env : Env} {outer : List Env} {E : Value → Shared → Prop} {s : Shared} {h₀ base : Heap} {L : Addr} {m mg mb : Str → Option Value} {mean : ExcName → Option Value} {news : List (Addr × Obj)} {Q : Value → Shared → Prop}
theorem use_decode2 {x p q : Str} {t : Tok} (PA : Pre6 A env outer L 640 500) (PB : Pre5 A₀ base outer h₀ L m mean mg mb s.heap w news)
    (hx : x.length ≤ 100) (hs : Txt.splitMax x (Str.ofString "'") 2 = [p, q])
    (h : ∀ l h' tk, Fr h₀ L h' m → News h₀ L h' ((l, { cls := .type "tuple", data := .seq #[.none, .none, .str x t] }) :: news) → (∀ p ∈ news, p.1 ≠ l) → Q (.ref l) { s with heap := h', toks := tk }) :
    wpAny (model PySem.Challenge.rw_ph0074_01.row.prog w) A (call (.ref 21) [.str x t]) Q E s := by
  obtain ⟨hh, hA, hf, hke, hd, hu⟩ := PA
  obtain ⟨B, F, X, T, N⟩ := PB
  refine spec_decode2 w x p q t hx hs A env outer A₀ base h₀ L m mean mg mb s Q E hh hA hf hke hd hu B F X T trivial ?_
  rintro v h' tk' k ⟨l, rfl, e, o⟩
  exact h l h' tk' (F.keeps k) (news_add F N k e o) (news_ne N e)
end
end
end Mine
namespace Mine
section
theorem reset_MLaw : True := by
  first | (walk1; done) | skip
  w_top off
  exact True.intro
local macro_rules | `(tactic| walk_at "call ref") => `(tactic| (k_here; (with_reducible show wpAny _ _ (call (Value.ref 36) [Value.int _ _, Value.int _ _]) _ _ _); k_dflt (refine' use_start ?hn ?hn3 ?PA ?PB ?_; (case PA => exact pre6 rfl rfl rfl rfl rfl rfl); (case PB => refine ⟨?_, ?_, ?_, ?_, ?_⟩ <;> k_asm); (case hn => exact (rfl : _ = ((_ : Nat) : Int))); (case hn3 => decide); k_whole); intro D' l' p' xs' ys' ds' ps' goal' nt' tg' tn' kl' kp' h' tk' hX' hY' ok' F' N' ne'; simp only [AllNe3, and_true] at ne'; (try dsimp only); (try k_fold)))
local macro_rules | `(tactic| walk_at "call builtin:str.join") => `(tactic| (k_here; k_dflt (refine' join3_K ?hl ?hn ?_; (case hl => exact News.isList (by k_asm) (by k_mem)); (case hn => exact TriOk.three (by assumption)); k_whole); intro tj' kj'))
local macro_rules | `(tactic| walk_at "call ref") => `(tactic| (k_here; (with_reducible show wpAny _ _ (call (Value.ref 43) [Value.str _ _]) _ _ _); k_dflt (refine' use_readT ?PA ?PB ?ex ?ok ?hn ?hnt ?_; (case PA => exact pre6 rfl rfl rfl rfl rfl rfl); (case PB => refine ⟨?_, ?_, ?_, ?_, ?_⟩ <;> k_asm); (case ex => assumption); (case ok => exact TriOk.six (by assumption)); (case hn => assumption); (case hnt => assumption); k_whole); intro l' d' h' tk' t1' t2' t3' t4' F' N' l1 l2; (have n1' := head_ne l1); (have n2' := head_ne l2); (try dsimp only); (try k_fold)))
local macro_rules | `(tactic| walk_at "call ref") => `(tactic| (k_here; (with_reducible show wpAny _ _ (call (Value.ref 69) _) _ _ _); k_dflt (refine' use_walked ?PA ?PB ?hm ?ok ?hfar ?hp ?hnl ?hnt ?_; (case PA => exact pre6 rfl rfl rfl rfl rfl rfl); (case PB => refine ⟨?_, ?_, ?_, ?_, ?_⟩ <;> k_asm); (case hm => k_mem); (case ok => assumption); (case hfar => assumption); (case hp => assumption); (case hnl => assumption); (case hnt => assumption); k_whole); intro r' h' tk' t0' t1' t2' n' F' N'; (try dsimp only); (try k_fold)))
local macro_rules | `(tactic| walk_at "compareOp NotEq ref ref") => `(tactic| (k_here; k_dflt (refine' ne3_K ?hl ?hl2 ?hu ?_; (case hl => exact News.isList (by k_asm) (by k_mem)); (case hl2 => first | exact News.isList (by k_asm) (by k_mem) | assumption); (case hu => (show _ < cLine; exact Nat.le_of_ble_eq_true rfl)); k_whole)))
local macro_rules | `(tactic| walk_at "call ref") => `(tactic| (k_here; (with_reducible show wpAny _ _ (call (Value.ref 21) [Value.str _ _]) _ _ _); k_dflt (refine' use_decode3 ?PA ?PB ?hx ?hs ?_; (case PA => exact pre6 rfl rfl rfl rfl rfl rfl); (case PB => refine ⟨?_, ?_, ?_, ?_, ?_⟩ <;> k_asm); (case hx => assumption); (case hs => assumption); k_whole); intro l' h' tk' t1' t2' t3' F' N' l1; (try dsimp only); (try k_fold)))
local macro_rules | `(tactic| walk_at "call ref") => `(tactic| (k_here; (with_reducible show wpAny _ _ (call (Value.ref 21) [Value.str (Mine.T _) _]) _ _ _); k_dflt (refine' use_decode2 ?PA ?PB ?hx ?hs ?_; (case PA => exact pre6 rfl rfl rfl rfl rfl rfl); (case PB => refine ⟨?_, ?_, ?_, ?_, ?_⟩ <;> k_asm); (case hx => omega); (case hs => assumption); k_whole); intro l' h' tk' F' N' l1; (try dsimp only); (try k_fold)))
local macro_rules | `(tactic| walk_at "call builtin:str.join") => `(tactic| (k_here; k_dflt (refine' join2_K ?hl ?ha ?hb ?_; (case hl => exact News.isList (by k_asm) (by k_mem)); (case ha => exact TriOk.la (by assumption)); (case hb => exact TriOk.lb (by assumption)); k_whole); intro tj' kj'))
local macro_rules | `(tactic| walk_at "compareOp Eq ref ref") => `(tactic| (k_here; k_dflt (refine' eq3_K ?hl ?hl2 ?hu ?_; (case hl => exact News.isList (by k_asm) (by k_mem)); (case hl2 => exact News.isList (by k_asm) (by k_mem)); (case hu => (show _ < cLine; exact Nat.le_of_ble_eq_true rfl)); k_whole)))
local macro_rules | `(tactic| walk_at "compareOp Eq ref ref") => `(tactic| (k_here; k_dflt (refine' eqt_K ?hl ?hl2 ?hu ?_; (case hl => exact tup_of (by k_asm) (by k_mem)); (case hl2 => exact tup_of (by k_asm) (by k_mem)); (case hu => (show _ < cLine; exact Nat.le_of_ble_eq_true rfl)); k_whole)))
local macro_rules | `(tactic| walk_at "eval ListComp") => `(tactic| refine hold_ ?_)
local macro_rules | `(tactic| walk_at "call builtin:len") => `(tactic| ((rename InHeap => mk'); refine hold_ ?_))
local macro_rules | `(tactic| walk_at "call type:range") => `(tactic| ((rename InHeap => mk'); refine hold_ ?_))
local macro_rules | `(tactic| walk_at "call builtin:str.join") => `(tactic| ((rename InHeap => mk'); refine hold_ ?_))
abbrev noteL {n : Nat} {ds : List Nat} {ps : List Int} {goal : Int} {nt : List Nat} (_ : StartOk n ds ps goal nt) : List Nat := 39 :: nt
abbrev noteT {n : Nat} {ds : List Nat} {ps : List Int} {goal : Int} {nt : List Nat} (_ : StartOk n ds ps goal nt) : Str := T (39 :: nt)
abbrev selOf {ds : List Nat} {xs ys : List Value} {ps : List Int} (_ : PySem.Paired Ltr ds xs) (_ : PySem.Paired Num ps ys) : Nat → List Nat := fun k => sel ds ps (k : Int)
theorem law_holds : PySem.Challenge.rw_ph0074_01.Holds := Mine.hd (by
  k_go0; (all_goals try k_fold)
  k_steps
  · show wpAny _ _ (exec _ _) _ _ _
    refine assign_comp (cl := [(Str.ofString "where", _), (Str.ofString "discs", _)]) (by with_unfolding_all rfl) (by with_unfolding_all rfl) rfl (by decide) (by intro _; rfl) ?_
    (try k_unmd)
    show wpAny _ _ (eval _ _) _ _ _
    k_steps
    rename IsRange _ _ _ _ _ _ _ _ => hr
    rename Fr _ _ _ _ => F1
    rename News _ _ _ _ => N1
    rename PySem.Paired Ltr _ _ => hX
    rename PySem.Paired Num _ _ => hY
    rename StartOk _ _ _ _ _ => ok
    refine wpAny_pyIter_range hr (by decide) ?_
    refine comp_cell (selOf hX hY) (Walks.range rfl _ 0 1 3) (fun i v ⟨t, e⟩ => ⟨t, by rw [e]; congr 1; omega⟩) ?_ ?_ (fun _ _ => rfl) (fun _ => rfl) rfl (fun _ _ => rfl) ?_ ?_
    · exact Heap.get?_push_size _ rfl
    · show @LT.lt Nat _ _ (Heap.push _ _).objs.size
      rw [Heap.size_push]
      exact Nat.lt_succ_self _
    · intro C k t s' hk hc kp
      have sub := sub_over kp
      have F2 := F1.keeps sub
      have N2 := N1.grown sub
      have mk9 := inHeap
      have hdl := dsLen ok (by decide)
      clear hr F1 N1 kp
      k_steps
      show wpAny _ _ (eval _ _) _ _ _
      refine' inner_comp rfl ?hclos ?hcell ?hkind ?hnames ?hx ?hkd ?hkw ?hkp ?hc1 ?hc2 ?hc3 ?v1 ?v2 hc ?hl ?hp hX hY ?hlen ?h9 ?hiter ?hs ?hQ
      (case hclos => with_unfolding_all rfl)
      (case hcell => decide)
      (case hkind => rfl)
      (case hnames => decide)
      (case hx => rfl)
      (case hkd => intro _; rfl)
      (case hkw => intro _; rfl)
      (case hkp => intro _; rfl)
      (case hc1 => rfl)
      (case hc2 => rfl)
      (case hc3 => rfl)
      (case v1 => refine' cell_of N2 ?m ?d; (case m => k_mem); (case d => assumption))
      (case v2 => refine' cell_of N2 ?m ?d; (case m => k_mem); (case d => assumption))
      (case hl => refine' list_of N2 ?m; (case m => k_mem))
      (case hp => refine' list_of N2 ?m; (case m => k_mem))
      (case hlen => omega)
      (case h9 => omega)
      (case hs => intro _; rfl)
      · intro Q' hq
        k_steps
        show wpAny _ _ (call _ _) _ _ _
        refine lenP_K (list_of N2 (by k_mem)) hX (by omega) ?_
        (try k_unmd)
        k_steps
        show wpAny _ _ (call _ _) _ _ _
        refine call_range_1 ?_
        exact hq _ _ _ _ _ _ (fun b o e => Heap.get?_push_of_some _ e) (Heap.get?_push_size _ rfl)
      · intro D h2 tk2 zs sub2 hl2 hz
        have F3 := F2.keeps sub2
        have N3 := N2.grown sub2
        clear F2 N2
        (try k_unmd)
        k_steps
        show wpAny _ _ (call _ _) _ _ _
        refine joinL_K hl2 hz (Nat.le_trans sel_len (by omega)) fun t' k' => ?_
        (try dsimp only); (try k_unfold); (try dsimp only)
        exact ⟨_, _, _, rfl, rfl, sub2⟩
    · intro D C its n h' tk m' d1 c1 dc ns hd tp kp
      have sub := sub_over kp
      obtain ⟨t0, t1, t2, rfl⟩ := strAt3 tp
      refine' heaps_post ?hL F1 N1 sub (push_none d1) (push_none c1) dc ns hd ?hy ?hp ?hq
      (case hL => rfl)
      (case hy => rfl)
      (case hp => rfl)
      intro h3 F3 N3 ne3
      clear kp sub F1 N1 ns c1
      obtain ⟨M, e, f, eM, eE, okM, hfar, hpath, okE⟩ := law_plain ok hX hY (by decide)
      have N4 := tri_news N3 eM
      have hnl := ok.nl
      have hnt := ok.nb
      have la := okM.la
      have lb := okM.lb
      have lc := okM.lc
      have hx := note_hx ok M
      have hx1 := tri_len M
      have hx2 := note_len ok
      clear N3
      (try dsimp only)
      (try k_unmd)
      (try k_fold)
      k_steps
      show wpAny _ _ (eval _ _) _ _ _
      rename Fr _ _ _ _ => F5
      rename News _ _ _ _ => N5
      refine' end_comp rfl ?zhclos ?zhcell ?zhkind ?zhnames ?zhx ?zhkg ?zhc1 ?zv1 ?zhiter ?zhbody ?zhorelse ?zhs ?zhQ
      (case zhclos => with_unfolding_all rfl)
      (case zhcell => decide)
      (case zhkind => rfl)
      (case zhnames => decide)
      (case zhx => rfl)
      (case zhkg => intro _; rfl)
      (case zhc1 => rfl)
      (case zv1 => refine' cell_of N5 ?zm ?zd; (case zm => k_mem); (case zd => assumption))
      (case zhs => intro _; rfl)
      case zhiter =>
        intro Q' hq
        have mk9 := inHeap
        k_steps
        show wpAny _ _ (call _ _) _ _ _
        refine call_range_1 ?_
        exact hq _ _ _ _ _ _ (fun b o e => Heap.get?_push_of_some _ e) (Heap.get?_push_size _ rfl)
      case zhbody =>
        intro C s3 E' sub3
        have mk9 := inHeap
        have F6 := F5.keeps sub3
        have N6 := N5.grown sub3
        k_steps
        show wpAny _ _ (call _ _) _ _ _
        refine joinL_K (list_of N6 (by k_mem)) hX (by have hd9 := dsLen ok (by decide); omega) fun t' k' => ?_
        (try dsimp only); (try k_unfold); (try dsimp only)
        exact ⟨_, rfl, _, _, rfl, fun _ _ e => e⟩
      case zhorelse =>
        intro C s3 E' sub3
        exact wpAny_Constant_str ⟨_, congrArg (fun x => Value.str x _) empty_is, _, _, rfl, fun _ _ e => e⟩
      case zhQ =>
        intro D2 h5 tk5 u0 u1 u2 sub5 hl5
        have hl6 := end_list ok (by decide) eE hl5
        have F6 := F5.keeps sub5
        have N6 := N5.grown sub5
        clear F5 N5 hl5 okM hfar hpath la lb lc hx hx1
        have la := okE.la
        have lb := okE.lb
        have lc := okE.lc
        have hy1 := two_len e
        have hy2 := two_split okE
        have hy3 := all_split ok okE
        have hy4 := all_len ok okE
        have hy5 := T_len e.2.2
        (try dsimp only)
        (try k_unmd)
        (try k_fold)
        k_steps
  · show wpAny _ _ (exec _ _) _ _ _
    refine assign_comp (cl := [(Str.ofString "where", _), (Str.ofString "discs", _)]) (by with_unfolding_all rfl) (by with_unfolding_all rfl) rfl (by decide) (by intro _; rfl) ?_
    (try k_unmd)
    show wpAny _ _ (eval _ _) _ _ _
    k_steps
    rename IsRange _ _ _ _ _ _ _ _ => hr
    rename Fr _ _ _ _ => F1
    rename News _ _ _ _ => N1
    rename PySem.Paired Ltr _ _ => hX
    rename PySem.Paired Num _ _ => hY
    rename StartOk _ _ _ _ _ => ok
    refine wpAny_pyIter_range hr (by decide) ?_
    refine comp_cell (selOf hX hY) (Walks.range rfl _ 0 1 3) (fun i v ⟨t, e⟩ => ⟨t, by rw [e]; congr 1; omega⟩) ?_ ?_ (fun _ _ => rfl) (fun _ => rfl) rfl (fun _ _ => rfl) ?_ ?_
    · exact Heap.get?_push_size _ rfl
    · show @LT.lt Nat _ _ (Heap.push _ _).objs.size
      rw [Heap.size_push]
      exact Nat.lt_succ_self _
    · intro C k t s' hk hc kp
      have sub := sub_over kp
      have F2 := F1.keeps sub
      have N2 := N1.grown sub
      have mk9 := inHeap
      have hdl := dsLen ok (by decide)
      clear hr F1 N1 kp
      k_steps
      show wpAny _ _ (eval _ _) _ _ _
      refine' inner_comp rfl ?hclosF ?hcellF ?hkindF ?hnamesF ?hxF ?hkdF ?hkwF ?hkpF ?hc1F ?hc2F ?hc3F ?v1F ?v2F hc ?hlF ?hpF hX hY ?hlenF ?h9F ?hiterF ?hsF ?hQF
      (case hclosF => with_unfolding_all rfl)
      (case hcellF => decide)
      (case hkindF => rfl)
      (case hnamesF => decide)
      (case hxF => rfl)
      (case hkdF => intro _; rfl)
      (case hkwF => intro _; rfl)
      (case hkpF => intro _; rfl)
      (case hc1F => rfl)
      (case hc2F => rfl)
      (case hc3F => rfl)
      (case v1F => refine' cell_of N2 ?mF ?dF; (case mF => k_mem); (case dF => assumption))
      (case v2F => refine' cell_of N2 ?mF ?dF; (case mF => k_mem); (case dF => assumption))
      (case hlF => refine' list_of N2 ?mF; (case mF => k_mem))
      (case hpF => refine' list_of N2 ?mF; (case mF => k_mem))
      (case hlenF => omega)
      (case h9F => omega)
      (case hsF => intro _; rfl)
      · intro Q' hq
        k_steps
        show wpAny _ _ (call _ _) _ _ _
        refine lenP_K (list_of N2 (by k_mem)) hX (by omega) ?_
        (try k_unmd)
        k_steps
        show wpAny _ _ (call _ _) _ _ _
        refine call_range_1 ?_
        exact hq _ _ _ _ _ _ (fun b o e => Heap.get?_push_of_some _ e) (Heap.get?_push_size _ rfl)
      · intro D h2 tk2 zs sub2 hl2 hz
        have F3 := F2.keeps sub2
        have N3 := N2.grown sub2
        clear F2 N2
        (try k_unmd)
        k_steps
        show wpAny _ _ (call _ _) _ _ _
        refine joinL_K hl2 hz (Nat.le_trans sel_len (by omega)) fun t' k' => ?_
        (try dsimp only); (try k_unfold); (try dsimp only)
        exact ⟨_, _, _, rfl, rfl, sub2⟩
    · intro D C its n h' tk m' d1 c1 dc ns hd tp kp
      have sub := sub_over kp
      obtain ⟨t0, t1, t2, rfl⟩ := strAt3 tp
      refine' heaps_post ?hLF F1 N1 sub (push_none d1) (push_none c1) dc ns hd ?hyF ?hpF ?hqF
      (case hLF => rfl)
      (case hyF => rfl)
      (case hpF => rfl)
      intro h3 F3 N3 ne3
      clear kp sub F1 N1 ns c1
      obtain ⟨M, e, f, eM, eE, okM, hfar, hpath, okE⟩ := law_plain ok hX hY (by decide)
      have N4 := tri_news N3 eM
      have hnl := ok.nl
      have hnt := ok.nb
      have la := okM.la
      have lb := okM.lb
      have lc := okM.lc
      have hx := note_hx ok M
      have hx1 := tri_len M
      have hx2 := note_len ok
      clear N3
      (try dsimp only)
      (try k_unmd)
      (try k_fold)
      k_steps
      show wpAny _ _ (eval _ _) _ _ _
      rename Fr _ _ _ _ => F5
      rename News _ _ _ _ => N5
      refine' end_comp rfl ?zhclosF ?zhcellF ?zhkindF ?zhnamesF ?zhxF ?zhkgF ?zhc1F ?zv1F ?zhiterF ?zhbodyF ?zhorelseF ?zhsF ?zhQF
      (case zhclosF => with_unfolding_all rfl)
      (case zhcellF => decide)
      (case zhkindF => rfl)
      (case zhnamesF => decide)
      (case zhxF => rfl)
      (case zhkgF => intro _; rfl)
      (case zhc1F => rfl)
      (case zv1F => refine' cell_of N5 ?zmF ?zdF; (case zmF => k_mem); (case zdF => assumption))
      (case zhsF => intro _; rfl)
      case zhiterF =>
        intro Q' hq
        have mk9 := inHeap
        k_steps
        show wpAny _ _ (call _ _) _ _ _
        refine call_range_1 ?_
        exact hq _ _ _ _ _ _ (fun b o e => Heap.get?_push_of_some _ e) (Heap.get?_push_size _ rfl)
      case zhbodyF =>
        intro C s3 E' sub3
        have mk9 := inHeap
        have F6 := F5.keeps sub3
        have N6 := N5.grown sub3
        k_steps
        show wpAny _ _ (call _ _) _ _ _
        refine joinL_K (list_of N6 (by k_mem)) hX (by have hd9 := dsLen ok (by decide); omega) fun t' k' => ?_
        (try dsimp only); (try k_unfold); (try dsimp only)
        exact ⟨_, rfl, _, _, rfl, fun _ _ e => e⟩
      case zhorelseF =>
        intro C s3 E' sub3
        exact wpAny_Constant_str ⟨_, congrArg (fun x => Value.str x _) empty_is, _, _, rfl, fun _ _ e => e⟩
      case zhQF =>
        intro D2 h5 tk5 u0 u1 u2 sub5 hl5
        have hl6 := end_list ok (by decide) eE hl5
        have F6 := F5.keeps sub5
        have N6 := N5.grown sub5
        clear F5 N5 hl5 okM hfar hpath la lb lc hx hx1
        have la := okE.la
        have lb := okE.lb
        have lc := okE.lc
        have hy1 := two_len e
        have hy2 := two_split okE
        have hy3 := all_split ok okE
        have hy4 := all_len ok okE
        have hy5 := T_len e.2.2
        (try dsimp only)
        (try k_unmd)
        (try k_fold)
        k_steps
  )
end
end Mine
theorem PySem.Challenge.cw_ph0074_01_holds : PySem.Challenge.rw_ph0074_01.Holds :=
  Mine.law_holds
