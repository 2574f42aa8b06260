import PyProof.Rows.All
import Wide.All
import OpenK.AllK
import Wide.FinOn
import PySem.Challenge.RW_mr0218_01
open PySem PySem.W PyProof.Rows
set_option Elab.async false
set_option maxRecDepth 100000

namespace Mine
set_option maxRecDepth 100000 in
set_option maxHeartbeats 8000000 in
open_top hd for PySem.Challenge.rw_mr0218_01
set_option maxHeartbeats 8000000
local macro_rules | `(tactic| walk_at $s:str) => `(tactic| k_extra $s)
noncomputable abbrev PG : Program := PySem.Challenge.rw_mr0218_01.row.prog
/-- what stands throughout: the written part of the top, and its names -/
structure Gd (w : World) (h : Heap) : Prop where
  X : (hd.heap_39 w.params).In h
  T : ∃ mean mg mb, Top hd.view_39 (looseW hd.view_39 [Str.ofString "Whitespace"]) mean mg mb h
theorem Gd.keeps {w : World} {h h' : Heap} (G : Gd w h) (k : ∀ b o, h.get? b = some o → h'.get? b = some o) : Gd w h' :=
  ⟨G.X.keeps k, let ⟨a, b, c, t⟩ := G.T; ⟨a, b, c, t.keeps k⟩⟩
theorem Gd.fr {w : World} {h₀ h : Heap} {L : Addr} {m : Str → Option Value} (G : Gd w h₀) (F : Fr h₀ L h m) : Gd w h := G.keeps F.keep
def Fresh (h h' : Heap) (led : List (Addr × Obj)) : Prop := ∀ p ∈ led, h'.get? p.1 = some p.2 ∧ h.get? p.1 = none
theorem Fresh.nil {h h' : Heap} : Fresh h h' [] := fun _ hp => nomatch hp
theorem Fresh.ofNews {h₀ h : Heap} {L : Addr} {news : List (Addr × Obj)} (N : News h₀ L h news) : Fresh h₀ h news := fun p hp => ⟨(N p hp).1, (N p hp).2.2⟩
/-- a call's contract: it ends, keeps all that stood, makes `led`, and gives `v` with `P v led` -/
def Gives (w : World) (A : Around) (f : Value) (args : List Value) (s : Shared) (P : Value → List (Addr × Obj) → Prop) : Prop :=
  ∀ R : Result → Shared → Prop, (∀ h' tk v led, s.heap.StaysIn h' → Fresh s.heap h' led → P v led → R (.ok (.ret v)) { s with heap := h', toks := tk }) →
    codeAny (model PG w) A (.call f ⟨args, []⟩) R s
theorem fresh_size {h : Heap} {a : Addr} {o : Obj} {h' : Heap} (_e : h'.get? a = some o) (n : h.get? a = none) (q : Addr) (oq : Obj) (hq : h.get? q = some oq) : a ≠ q := by
  rintro rfl; rw [n] at hq; cases hq
theorem Gives.use {w : World} {A : Around} {f : Value} {args : List Value} {s : Shared} {P : Value → List (Addr × Obj) → Prop} {E : Value → Shared → Prop} {Q : Value → Shared → Prop}
    {h₀ : Heap} {L : Addr} {m : Str → Option Value} {news : List (Addr × Obj)}
    (g : Gives w A f args s P) (F : Fr h₀ L s.heap m) (N : News h₀ L s.heap news)
    (h : ∀ h' tk v led, P v led → Fr h₀ L h' m → News h₀ L h' (led ++ news) → s.heap.StaysIn h' → Fresh s.heap h' led → Q v { s with heap := h', toks := tk }) :
    wpAny (model PG w) A (call f args) Q E s := by
  refine wpAny_call (g _ fun h' tk v led st fr hp => ?_)
  obtain ⟨oL, es, ep, hL, hr⟩ := F.ns
  refine h h' tk v led hp ⟨⟨oL, es, ep, st _ _ hL, hr⟩, fun b o e => st _ _ (F.keep b o e), F.above⟩ (fun p hp => ?_) st fr
  rcases List.mem_append.mp hp with q | q
  · refine ⟨(fr p q).1, fresh_size (fr p q).1 (fr p q).2 _ _ hL, ?_⟩
    cases e : h₀.get? p.1 with
    | none => rfl
    | some o => have := F.keep _ _ e; rw [(fr p q).2] at this; cases this
  · exact ⟨st _ _ (N p q).1, (N p q).2⟩
/-- a contract whose value is plain: nothing is made -/
theorem Gives.use0 {w : World} {A : Around} {f : Value} {args : List Value} {s : Shared} {P : Value → Prop} {E : Value → Shared → Prop} {Q : Value → Shared → Prop}
    {h₀ : Heap} {L : Addr} {m : Str → Option Value} {news : List (Addr × Obj)}
    (g : Gives w A f args s (fun v _ => P v)) (F : Fr h₀ L s.heap m) (N : News h₀ L s.heap news)
    (h : ∀ h' tk v, P v → Fr h₀ L h' m → News h₀ L h' news → Q v { s with heap := h', toks := tk }) :
    wpAny (model PG w) A (call f args) Q E s :=
  g.use F N fun h' tk v _ hp F' N' _ _ => h h' tk v hp F' fun p hq => N' p (List.mem_append_right _ hq)
/-- a contract whose value is one up to its token -/
theorem Gives.useT {w : World} {A : Around} {f : Value} {args : List Value} {s : Shared} {v₀ : Tok → Value} {E : Value → Shared → Prop} {Q : Value → Shared → Prop}
    {h₀ : Heap} {L : Addr} {m : Str → Option Value} {news : List (Addr × Obj)}
    (g : Gives w A f args s (fun v _ => ∃ t, v = v₀ t)) (F : Fr h₀ L s.heap m) (N : News h₀ L s.heap news)
    (h : ∀ h' tk t, Fr h₀ L h' m → News h₀ L h' news → Q (v₀ t) { s with heap := h', toks := tk }) :
    wpAny (model PG w) A (call f args) Q E s :=
  Gives.use0 g F N fun h' tk _ hp F' N' => let ⟨t, e⟩ := hp; e ▸ h h' tk t F' N'
/-- a contract that gives one value -/
theorem Gives.useE {w : World} {A : Around} {f : Value} {args : List Value} {s : Shared} {v₀ : Value} {E : Value → Shared → Prop} {Q : Value → Shared → Prop}
    {h₀ : Heap} {L : Addr} {m : Str → Option Value} {news : List (Addr × Obj)}
    (g : Gives w A f args s (fun v _ => v = v₀)) (F : Fr h₀ L s.heap m) (N : News h₀ L s.heap news)
    (h : ∀ h' tk, Fr h₀ L h' m → News h₀ L h' news → Q v₀ { s with heap := h', toks := tk }) :
    wpAny (model PG w) A (call f args) Q E s :=
  Gives.use0 g F N fun h' tk _ hp F' N' => hp ▸ h h' tk F' N'
/-- what is to be shown at the end, out of sight while walking -/
theorem hideQ {M : Model} {A : Around} {α : Type} {x : Sem α} {E : Value → Shared → Prop} {s : Shared} {Q : α → Shared → Prop} (h : ∀ T : α → Shared → Prop, T = Q → wpAny M A x T E s) : wpAny M A x Q E s := h Q rfl
/-- the end of a walked body -/
def Ends (s : Shared) (P : Value → List (Addr × Obj) → Prop) (v : Value) (s' : Shared) : Prop :=
  ∃ h' tk' led, s' = { s with heap := h', toks := tk' } ∧ s.heap.StaysIn h' ∧ Fresh s.heap h' led ∧ P v led
theorem enter {w : World} {A : Around} {s : Shared} {P : Value → List (Addr × Obj) → Prop} {name qual : Str} {params : Arguments} {body : List Stmt} {scope : Scope} {dV kV doc pm cdv ct oc : Value} {an od : Option Addr} {osl : Array (Option Value)} {f : Addr} {args : List Value} (binds : List (Str × Value))
    (G : Gd w s.heap)
    (ho : (hd.heap_39 w.params).lookup f = some ⟨oc, od, .func (fnOf name qual params body scope dV kV doc pm an cdv ct), osl⟩) (hcd : codeIn (hd.heap_39 w.params) cdv qual = true) (hroom : A.depth < recursionLimit)
    (hbind : BindsTo s (fnOf name qual params body scope dV kV doc pm an cdv ct) ⟨args, []⟩ binds) (hloc : ∀ y ∈ binds, scope.names.lookup y.1 = some .local)
    (h : ∀ L mg mb h₁ tk, L = s.heap.objs.size → Fr s.heap L h₁ (fun y => binds.reverse.lookup y) → News s.heap L h₁ [] → (hd.heap_39 w.params).In s.heap → ∀ mean, Top hd.view_39 (looseW hd.view_39 [Str.ofString "Whitespace"]) mean mg mb s.heap →
      wpAny (model PG w) (A.deeper (envOf qual scope L f cdv)) (execs body (envOf qual scope L f cdv))
        (fun fl s' => Ends s P (match fl with | .ret v => v | _ => .none) s') (fun _ _ => False)
        { s with heap := h₁, toks := tk })
    (hcell : ∀ x ∈ scope.names, x.2 ≠ .cell) (hco : scope.isCoroutine = false := by rfl) (hgen : scope.isGenerator = false := by rfl) (hk : scope.kind = .function := by rfl) :
    Gives w A (.ref f) args s P := by
  intro R hR
  obtain ⟨mean, mg, mb, T⟩ := G.T
  refine codeAny_call_def (fd := fnOf name qual params body scope dV kV doc pm an cdv ct) (body := body) (binds := binds) hroom (G.X _ _ ho) rfl T.nolimit (codeRec_of G.X hcd) rfl hbind hcell hloc (fun h₁ hns hk₁ => ?_) hco hgen hk
  refine wpAny_mono (h _ mg mb h₁ _ rfl ⟨hns, hk₁, Nat.le_refl _⟩ News.nil G.X mean T) (fun fl s' hx => ?_) fun _ _ x => x.elim
  obtain ⟨h', tk', led, rfl, st, fr, hp⟩ := hx
  exact hR h' tk' _ led st fr hp
theorem enterC {w : World} {A : Around} {s : Shared} {P : Value → List (Addr × Obj) → Prop} {name qual : Str} {params : Arguments} {body : List Stmt} {scope : Scope} {dV kV doc pm cdv ct oc : Value} {an od : Option Addr} {osl : Array (Option Value)} {f : Addr} {args : List Value} (binds : List (Str × Value))
    (G : Gd w s.heap)
    (ho : (hd.heap_39 w.params).lookup f = some ⟨oc, od, .func (fnOf name qual params body scope dV kV doc pm an cdv ct), osl⟩) (hcd : codeIn (hd.heap_39 w.params) cdv qual = true) (hroom : A.depth < recursionLimit)
    (hbind : BindsTo s (fnOf name qual params body scope dV kV doc pm an cdv ct) ⟨args, []⟩ binds)
    (hkind : (binds.all fun y => scope.names.lookup y.1 == some .local || scope.names.lookup y.1 == some .cell) = true)
    (hnd : ((cellsFrom 0 scope.names []).map (·.1)).Nodup)
    (h : ∀ L mg mb h₁ tk cells, L = s.heap.objs.size → Fr s.heap L h₁ (bindL (envOfC qual scope L f cdv).kindOf binds fun _ => none) → News s.heap L h₁ cells →
      CellsAre (bindC (envOfC qual scope L f cdv).kindOf binds fun _ => none) (cellsFrom (L + 1) scope.names []) cells →
      (hd.heap_39 w.params).In s.heap → ∀ mean, Top hd.view_39 (looseW hd.view_39 [Str.ofString "Whitespace"]) mean mg mb s.heap →
      wpAny (model PG w) (A.deeper (envOfC qual scope L f cdv)) (execs body (envOfC qual scope L f cdv))
        (fun fl s' => Ends s P (match fl with | .ret v => v | _ => .none) s') (fun _ _ => False)
        { s with heap := h₁, toks := tk })
    (hco : scope.isCoroutine = false := by rfl) (hgen : scope.isGenerator = false := by rfl) (hk : scope.kind = .function := by rfl) :
    Gives w A (.ref f) args s P := by
  intro R hR
  obtain ⟨mean, mg, mb, T⟩ := G.T
  refine codeAny_call_function (fd := fnOf name qual params body scope dV kV doc pm an cdv ct) hroom (G.X _ _ ho) rfl hco hgen rfl (codeRec_of G.X hcd) (hbind _ _ _ _ ?_)
  refine wpAny_newFunctionEnv_cells hk (kindsX hkind _) fun env' he s' x => ?_
  subst he
  refine ⟨T.nolimit.keeps x.toInCall.keep, codeAny_func ?_⟩
  obtain ⟨h₁, tk, rfl, _⟩ := x.done
  have hk₁ := x.toInCall.keep
  obtain ⟨cells, NC, Y⟩ := Cl.news (h₀ := s.heap) (Nat.le_refl _) fun n c hm => ⟨x.cell n c (lookup_of_mem_nodup (cellsFrom_names scope.names 0 (s.heap.objs.size + 1) [] [] rfl ▸ hnd) hm), x.above n c hm⟩
  refine wpAny_mono (h _ mg mb h₁ tk cells rfl ⟨x.toInCall.ns, fun b o e => hk₁ b o e, Nat.le_refl _⟩ NC Y G.X mean T) (fun fl s' hx => ?_) fun _ _ x => x.elim
  obtain ⟨h', tk', led, rfl, st, fr, hp⟩ := hx
  exact hR h' tk' _ led st fr hp
theorem fin {h₀ : Heap} {s : Shared} {L : Addr} {m : Str → Option Value} {news : List (Addr × Obj)} {h' : Heap} {tk : Nat} {P : Value → List (Addr × Obj) → Prop} {v : Value}
    (e : h₀ = s.heap) (F : Fr h₀ L h' m) (N : News h₀ L h' news) (hp : P v news) : Ends s P v ({ s with heap := h', toks := tk } : Shared) := by
  subst e
  exact ⟨h', tk, news, rfl, F.keep, Fresh.ofNews N, hp⟩
theorem prep1 : True := by
  k_with_none
  k_with "it" => (simp only [decide_eq_true_eq, beq_iff_eq, bne_iff_ne, ne_eq]; omega)
  k_with "ite" => first | refine ite_neg (by walk_at "it") ?_ | refine ite_pos (by walk_at "it") ?_
  k_with "st" => first | walk1 | (dsimp only; walk1)
  k_with "go" => repeat' (walk_at "st")
  w_top off
  trivial
theorem ctoi_str {w : World} {d u : Nat} {fr : Option (List Env)} {g : Option (List Code)} {s : Shared} {c : Nat} {t : Tok} (G : Gd w s.heap) (hroom : d < 900) :
    Gives w ⟨none, d, fr, g, u⟩ (.ref 87) [.str ⟨#[c]⟩ t] s (fun v _ => ∃ t', v = .int c t') := by
  refine enter [(Str.ofString "c", .str ⟨#[c]⟩ t)] G (by k_is) (by k_is) (by simp only [recursionLimit]; omega) (BindsTo.of_eq rfl) (locs rfl) ?_ (by decide)
  intro L mg mb h₁ tk hL F N X mean T
  walk_at "go"
  exact fin rfl (by assumption) (by assumption) ⟨_, rfl⟩
theorem ctoi_int {w : World} {d u : Nat} {fr : Option (List Env)} {g : Option (List Code)} {s : Shared} {c : Int} {t : Tok} (G : Gd w s.heap) (hroom : d < 900) :
    Gives w ⟨none, d, fr, g, u⟩ (.ref 87) [.int c t] s (fun v _ => ∃ t', v = .int c t') := by
  refine enter [(Str.ofString "c", .int c t)] G (by k_is) (by k_is) (by simp only [recursionLimit]; omega) (BindsTo.of_eq rfl) (locs rfl) ?_ (by decide)
  intro L mg mb h₁ tk hL F N X mean T
  walk_at "go"
  exact fin rfl (by assumption) (by assumption) ⟨_, rfl⟩
theorem prep2 : True := by
  k_with_none
  k_with "it" => (simp only [decide_eq_true_eq, beq_iff_eq, bne_iff_ne, ne_eq]; omega)
  k_with "ite" => first | refine ite_neg (by walk_at "it") ?_ | refine ite_pos (by walk_at "it") ?_
  k_with "st" => first | walk1 | (dsimp only; walk1)
  k_with "go" => repeat' (walk_at "st")
  k_with "o" => first | omega | (simp only [Around.deeper]; omega)
  k_with "g" => exact Gd.fr (by assumption) (by assumption)
  k_with "call ref" => (refine Gives.useT (ctoi_str (by walk_at "g") (by walk_at "o")) (by k_asm) (by k_asm) ?_; intro _ _ _ _ _)
  k_with "call ref" => (refine Gives.useT (ctoi_int (by walk_at "g") (by walk_at "o")) (by k_asm) (by k_asm) ?_; intro _ _ _ _ _)
  w_top off
  trivial
theorem ctrl_str {w : World} {d u : Nat} {fr : Option (List Env)} {g : Option (List Code)} {s : Shared} {c : Nat} {t : Tok} (G : Gd w s.heap) (hroom : d < 890) :
    Gives w ⟨none, d, fr, g, u⟩ (.ref 101) [.str ⟨#[c]⟩ t] s (fun v _ => ∃ t', v = .str ⟨#[c % 32]⟩ t') := by
  refine enter [(Str.ofString "c", .str ⟨#[c]⟩ t)] G (by k_is) (by k_is) (by simp only [recursionLimit]; omega) (BindsTo.of_eq rfl) (locs rfl) ?_ (by decide)
  intro L mg mb h₁ tk hL F N X mean T
  walk_at "go"
  rw [bitAnd_m5]
  refine chr_of_range (by omega) (by omega) ?_
  have e : ((c : Int) % 32).toNat = c % 32 := by omega
  rw [e]
  exact fin rfl (by assumption) (by assumption) ⟨_, rfl⟩
theorem isprint_lo {w : World} {d u : Nat} {fr : Option (List Env)} {g : Option (List Code)} {s : Shared} {c : Int} {t : Tok} (G : Gd w s.heap) (hroom : d < 890) (hc : c < 32) :
    Gives w ⟨none, d, fr, g, u⟩ (.ref 94) [.int c t] s (fun v _ => v = .bool false) := by
  refine enter [(Str.ofString "c", .int c t)] G (by k_is) (by k_is) (by simp only [recursionLimit]; omega) (BindsTo.of_eq rfl) (locs rfl) ?_ (by decide)
  intro L mg mb h₁ tk hL F N X mean T
  walk_at "go"
  all_goals (rw [decide_eq_false (by omega)]; exact fin rfl (by assumption) (by assumption) rfl)
theorem prep3 : True := by
  k_with_none
  k_with "it" => (simp only [decide_eq_true_eq, beq_iff_eq, bne_iff_ne, ne_eq]; omega)
  k_with "ite" => first | refine ite_neg (by walk_at "it") ?_ | refine ite_pos (by walk_at "it") ?_
  k_with "st" => first | walk1 | (dsimp only; walk1)
  k_with "go" => repeat' (walk_at "st")
  k_with "o" => first | omega | (simp only [Around.deeper]; omega)
  k_with "g" => exact Gd.fr (by assumption) (by assumption)
  k_with "call ref" => (refine Gives.useT (ctoi_str (by walk_at "g") (by walk_at "o")) (by k_asm) (by k_asm) ?_; intro _ _ _ _ _)
  k_with "call ref" => (refine Gives.useT (ctoi_int (by walk_at "g") (by walk_at "o")) (by k_asm) (by k_asm) ?_; intro _ _ _ _ _)
  k_with "call ref" => (refine Gives.useE (isprint_lo (by walk_at "g") (by walk_at "o") (by omega)) (by k_asm) (by k_asm) ?_; intro _ _ _ _)
  w_top off
  trivial
theorem nineN {v : Nat} (h1 : 1 ≤ v) (h9 : v ≤ 9) : v = 1 ∨ v = 2 ∨ v = 3 ∨ v = 4 ∨ v = 5 ∨ v = 6 ∨ v = 7 ∨ v = 8 ∨ v = 9 :=
  (by decide : ∀ v : Fin 10, 1 ≤ v.1 → v.1 = 1 ∨ v.1 = 2 ∨ v.1 = 3 ∨ v.1 = 4 ∨ v.1 = 5 ∨ v.1 = 6 ∨ v.1 = 7 ∨ v.1 = 8 ∨ v.1 = 9) ⟨v, Nat.lt_succ_of_le h9⟩ h1
theorem nineI {n : Int} (h1 : 1 ≤ n) (h9 : n ≤ 9) : n = 1 ∨ n = 2 ∨ n = 3 ∨ n = 4 ∨ n = 5 ∨ n = 6 ∨ n = 7 ∨ n = 8 ∨ n = 9 := by
  obtain ⟨k, rfl⟩ := Int.eq_ofNat_of_zero_le (show 0 ≤ n by omega)
  rcases nineN (v := k) (by omega) (by omega) with rfl | rfl | rfl | rfl | rfl | rfl | rfl | rfl | rfl <;> decide
theorem fourN {i : Nat} (h : i < 4) : i = 0 ∨ i = 1 ∨ i = 2 ∨ i = 3 := (by decide : ∀ i : Fin 4, i.1 = 0 ∨ i.1 = 1 ∨ i.1 = 2 ∨ i.1 = 3) ⟨i, h⟩
theorem sum64 {c : Int} (h : 1 ≤ c) : (c + 32 + 32).toNat = 64 + c.toNat := by omega
theorem unctrl_int {w : World} {d u : Nat} {fr : Option (List Env)} {g : Option (List Code)} {s : Shared} {c : Int} {t : Tok} (G : Gd w s.heap) (hroom : d < 880) (h1 : 1 ≤ c) (h9 : c ≤ 9) :
    Gives w ⟨none, d, fr, g, u⟩ (.ref 108) [.int c t] s (fun v _ => ∃ t', v = .str ⟨#[94, 64 + c.toNat]⟩ t') := by
  refine enter [(Str.ofString "c", .int c t)] G (by k_is) (by k_is) (by simp only [recursionLimit]; omega) (BindsTo.of_eq rfl) (locs rfl) ?_ (by decide)
  intro L mg mb h₁ tk hL F N X mean T
  have hcs := nineI h1 h9
  have b1 : Builtin.bitAnd c 127 = c := by rcases hcs with e | e | e | e | e | e | e | e | e <;> subst e <;> decide
  have b2 : Builtin.bitOr c 32 = c + 32 := by rcases hcs with e | e | e | e | e | e | e | e | e <;> subst e <;> decide
  have b3 : Builtin.bitAnd c 128 = 0 := by rcases hcs with e | e | e | e | e | e | e | e | e <;> subst e <;> decide
  clear hcs
  walk_at "go"
  rw [b1, b2]
  refine chr_of_range (by omega) (by omega) ?_
  walk_at "go"
  have e : Str.ofString "^" ++ ⟨#[(c + 32 + 32).toNat]⟩ = (⟨#[94, 64 + c.toNat]⟩ : Str) := by
    rw [sum64 h1, show Str.ofString "^" = ⟨#[94]⟩ by decide]; rfl
  rw [e]
  exact fin rfl (by assumption) (by assumption) ⟨_, rfl⟩
/-- no iterator among them -/
def Calm (news : List (Addr × Obj)) : Prop := ∀ p ∈ news, ∀ vs, p.2.data ≠ .fields vs
theorem Calm.nil : Calm [] := fun _ hp => nomatch hp
theorem Calm.cons {p : Addr × Obj} {l : List (Addr × Obj)} (h : ∀ vs, p.2.data ≠ .fields vs) (k : Calm l) : Calm (p :: l) := fun q hq => by
  rcases List.mem_cons.mp hq with rfl | hq
  · exact h
  · exact k q hq
theorem Calm.append {a b : List (Addr × Obj)} (h : Calm a) (k : Calm b) : Calm (a ++ b) := fun q hq => (List.mem_append.mp hq).elim (h q) (k q)
theorem Calm.left {a b : List (Addr × Obj)} (h : Calm (a ++ b)) : Calm a := fun q hq => h q (List.mem_append_left _ hq)
theorem Calm.right {a b : List (Addr × Obj)} (h : Calm (a ++ b)) : Calm b := fun q hq => h q (List.mem_append_right _ hq)
def dTag : Data → Nat
  | .seq _ _ => 0
  | .dict _ _ => 1
  | .plain => 2
  | .fields _ => 3
  | .cell _ => 4
  | _ => 5
theorem news_ne {h₀ h : Heap} {L : Addr} {news : List (Addr × Obj)} {a b : Addr} {o o' : Obj} (N : News h₀ L h news) (ha : (a, o) ∈ news) (hb : (b, o') ∈ news) (hd : Nat.beq (dTag o.data) (dTag o'.data) = false) : a ≠ b := by
  rintro rfl
  have h1 := N.get ha
  rw [N.get hb] at h1
  rw [Option.some.inj h1, Nat.beq_refl] at hd
  cases hd
/-- names laid over a map -/
abbrev ov (ps : List (Str × Option Value)) (m₀ : Str → Option Value) : Str → Option Value := fun y => match ps.lookup y with | some v => v | none => m₀ y
theorem ov_none {ps : List (Str × Option Value)} {m₀ : Str → Option Value} {y : Str} (h : y ∉ ps.map (·.1)) : ov ps m₀ y = m₀ y := by
  have : ps.lookup y = none := by
    induction ps with
    | nil => rfl
    | cons p r ih =>
      simp only [List.map_cons, List.mem_cons, not_or] at h
      have e : (y == p.1) = false := by simpa using h.1
      obtain ⟨a, b⟩ := p
      rw [List.lookup_cons, e]
      exact ih h.2
  simp only [ov, this]
theorem ov_eq {ps : List (Str × Option Value)} {m m₀ : Str → Option Value} (h1 : ∀ p ∈ ps, m p.1 = p.2) (h2 : ∀ y, y ∉ ps.map (·.1) → m y = m₀ y) : m = ov ps m₀ := by
  funext y
  by_cases hy : y ∈ ps.map (·.1)
  · have : ∃ v, ps.lookup y = some v ∧ (y, v) ∈ ps := by
      clear h1 h2
      induction ps with
      | nil => simp at hy
      | cons p r ih =>
        obtain ⟨a, b⟩ := p
        by_cases e : y = a
        · subst e; exact ⟨b, by simp [List.lookup_cons], by simp⟩
        · have e' : (y == a) = false := by simpa using e
          simp only [List.map_cons, List.mem_cons, e, false_or] at hy
          obtain ⟨v, h1, h2⟩ := ih hy
          exact ⟨v, by rw [List.lookup_cons, e']; exact h1, by simp [h2]⟩
    obtain ⟨v, e, hm⟩ := this
    simp only [ov, e]
    exact h1 _ hm
  · rw [ov_none hy]; exact h2 y hy
/-- what a turn must leave -/
def TurnQ (h₀ : Heap) (L : Addr) (own : List (Addr × Obj)) (Jn : (Str → Option Value) → List (Addr × Obj) → Prop) (s : Shared) (Q : Flow → Shared → Prop) (f : Flow) (s₂ : Shared) : Prop :=
  match f with
  | .ret v => Q (.ret v) s₂
  | .brk => Q .next s₂
  | _ => ∃ h' tk m₂ led news₂, s₂ = { s with heap := h', toks := tk } ∧ Fr h₀ L h' m₂ ∧ News h₀ L h' led ∧ (∀ p ∈ own, p ∈ led) ∧ (∀ p ∈ news₂, p ∈ led) ∧ Calm news₂ ∧ Jn m₂ news₂
theorem TurnQ.next {h₀ : Heap} {L : Addr} {own : List (Addr × Obj)} {Jn : (Str → Option Value) → List (Addr × Obj) → Prop} {s : Shared} {Q : Flow → Shared → Prop} {h' : Heap} {tk : Nat} {m₂ : Str → Option Value} {led : List (Addr × Obj)} (news₂ : List (Addr × Obj))
    (F : Fr h₀ L h' m₂) (N : News h₀ L h' led) (ho : ∀ p ∈ own, p ∈ led) (hn : ∀ p ∈ news₂, p ∈ led) (hc : Calm news₂) (hj : Jn m₂ news₂) : TurnQ h₀ L own Jn s Q .next { s with heap := h', toks := tk } :=
  ⟨h', tk, m₂, led, news₂, rfl, F, N, ho, hn, hc, hj⟩
theorem TurnQ.head {h₀ : Heap} {L : Addr} {own : List (Addr × Obj)} {Jn : (Str → Option Value) → List (Addr × Obj) → Prop} {s : Shared} {Q : Flow → Shared → Prop} {h' : Heap} {tk : Nat} {m₂ : Str → Option Value} {D : Addr} {o : Obj} {l : List (Addr × Obj)} (rest : List (Addr × Obj))
    (N : News h₀ L h' ((D, o) :: l)) (F : Fr h₀ L h' m₂) (ho : ∀ p ∈ own, p ∈ (D, o) :: l) (hn : ∀ p ∈ rest, p ∈ (D, o) :: l) (hc : Calm ((D, o) :: rest)) (hj : Jn m₂ ((D, o) :: rest)) : TurnQ h₀ L own Jn s Q .next { s with heap := h', toks := tk } :=
  TurnQ.next _ F N ho (fun p hp => (List.mem_cons.mp hp).elim (fun e => e ▸ List.mem_cons_self) (hn p)) hc hj
theorem TurnQ.brk {h₀ : Heap} {L : Addr} {own : List (Addr × Obj)} {Jn : (Str → Option Value) → List (Addr × Obj) → Prop} {s : Shared} {Q : Flow → Shared → Prop} {s₂ : Shared} (h : Q .next s₂) : TurnQ h₀ L own Jn s Q .brk s₂ := h
theorem TurnQ.ret {h₀ : Heap} {L : Addr} {own : List (Addr × Obj)} {Jn : (Str → Option Value) → List (Addr × Obj) → Prop} {s : Shared} {Q : Flow → Shared → Prop} {s₂ : Shared} {v : Value} (h : Q (.ret v) s₂) : TurnQ h₀ L own Jn s Q (.ret v) s₂ := h
section
variable {prog : Program} {w : World} {A : Around} {E : Value → Shared → Prop} {s : Shared} {env : Env} {h₀ : Heap} {x : Str} {body : List Stmt} {Q : Flow → Shared → Prop}
theorem loopJ {I : Addr} {n : Nat} {P : Nat → Value → Prop} {St : Nat → Heap → Prop} {m₀ : Str → Option Value} {news : List (Addr × Obj)} (J : Nat → (Str → Option Value) → List (Addr × Obj) → Prop)
    (W : Walks prog w A I [I] [I] n P St) (hit : ∀ i h, St i h → ∃ o vs, h.get? I = some o ∧ o.data = .fields vs) (hLf : env.locals ≠ I) (hwr : h₀.get? I = none) (hst : St 0 s.heap)
    (F : Fr h₀ env.locals s.heap m₀) (N : News h₀ env.locals s.heap news) (hc : Calm news) (h0 : J 0 m₀ news)
    (turn : ∀ i v m₁ news₁ h tk own, i < n → P i v → J i m₁ news₁ → Calm news₁ → (∀ p ∈ own, ∀ q ∈ news₁, p.1 ≠ q.1) → Fr h₀ env.locals h (fun y => if y = x then some v else m₁ y) → News h₀ env.locals h (news₁ ++ own) →
      wpAny (model prog w) A (execs body env) (TurnQ h₀ env.locals own (J (i + 1)) s Q) E { s with heap := h, toks := tk })
    (done : ∀ m₁ news₁ h tk, J n m₁ news₁ → Calm news₁ → Fr h₀ env.locals h m₁ → News h₀ env.locals h news₁ → Q .next { s with heap := h, toks := tk }) :
    LoopAtV prog w A h₀ env x body Q E (.ref I) s := by
  have off : ∀ {i : Nat} {h : Heap} {l : List (Addr × Obj)}, St i h → Calm l → (∀ p ∈ l, h.get? p.1 = some p.2) → ∀ p ∈ l, p.1 ∉ [I] := fun st hc hg p hp hm => by
    obtain ⟨o, vs, ho, hd⟩ := hit _ _ st
    have e := List.mem_singleton.mp hm
    have := hg p hp
    rw [e, ho] at this
    exact hc p hp vs ((Option.some.inj this) ▸ hd)
  refine ⟨I, [I], [I], n, P, St, m₀, news, (fun i m l => J i m l ∧ Calm l), rfl, W, (fun h => hLf (List.mem_singleton.mp h)), (fun b hb => (List.mem_singleton.mp hb) ▸ hwr), off hst hc (fun p hp => (N p hp).1), hst, F, N, ⟨h0, hc⟩, ?_, ?_⟩
  · rintro i v m₁ news₁ s₁ own ⟨h, tk, rfl⟩ hi hP ⟨hJ, hC⟩ hoff hown hget hall hst₁ F₁ N₁
    have N₂ : News h₀ env.locals h (news₁ ++ own) := fun p hp => N₁ p ((List.mem_append.mp hp).elim (List.mem_append_right _) (List.mem_append_left _))
    refine wpAny_mono (turn i v m₁ news₁ h tk own hi hP hJ hC (fun p hp q hq e => hoff q hq (e ▸ hown p hp)) F₁ N₂) (fun f s₂ p => ?_) fun _ _ e => e
    have fin : (∃ h' tk' m₂ led news₂, s₂ = { s with heap := h', toks := tk' } ∧ Fr h₀ env.locals h' m₂ ∧ News h₀ env.locals h' led ∧ (∀ p ∈ own, p ∈ led) ∧ (∀ p ∈ news₂, p ∈ led) ∧ Calm news₂ ∧ J (i + 1) m₂ news₂) →
        LoopStepU h₀ env.locals [I] own (fun m l => J (i + 1) m l ∧ Calm l) { s with heap := h, toks := tk } .next s₂ := by
      rintro ⟨h', tk', m₂, led, news₂, e, F', N', ho, hn, hc', hj⟩
      have hst₂ : St (i + 1) h' := W.frame _ _ _ hst₁ fun b hb o e => by
        have hb' := List.mem_singleton.mp hb
        exact (N' _ (ho _ (hall b hb (hb' ▸ hwr) o e))).1
      exact ⟨rfl, h', tk', m₂, news₂, e, F', fun p hp => (List.mem_append.mp hp).elim (fun q => N' _ (ho p q)) (fun q => N' _ (hn p q)), off hst₂ hc' (fun p hp => (N' p (hn p hp)).1), hj, hc'⟩
    cases f with
    | ret v => exact .ret p
    | brk => exact .brk p
    | next => exact .next (fin p)
    | cont => exact .cont (fin p)
  · rintro h' tk m' news' F' N' _ ⟨hJ, hC⟩
    exact done m' news' h' tk hJ hC F' N'
/-- a for over a text's signs -/
theorem iterStr {xt : Str} {tx : Tok} {m₀ : Str → Option Value} {news : List (Addr × Obj)} (J : Nat → (Str → Option Value) → List (Addr × Obj) → Prop)
    (hh : A.handled = none) (F : Fr h₀ env.locals s.heap m₀) (N : News h₀ env.locals s.heap news) (hc : Calm news) (h0 : J 0 m₀ news)
    (turn : ∀ i c t m₁ news₁ h tk own, xt.cps.toList[i]? = some c → J i m₁ news₁ → Calm news₁ → (∀ p ∈ own, ∀ q ∈ news₁, p.1 ≠ q.1) → Fr h₀ env.locals h (fun y => if y = x then some (.str ⟨#[c]⟩ t) else m₁ y) → News h₀ env.locals h (news₁ ++ own) →
      wpAny (model prog w) A (execs body env) (TurnQ h₀ env.locals own (J (i + 1)) s Q) E { s with heap := h, toks := tk })
    (done : ∀ m₁ news₁ h tk, J xt.cps.toList.length m₁ news₁ → Calm news₁ → Fr h₀ env.locals h m₁ → News h₀ env.locals h news₁ → Q .next { s with heap := h, toks := tk }) :
    wpAny (model prog w) A (pyIter (.str xt tx)) (fun it s₂ => LoopAtV prog w A h₀ env x body Q E it s₂) E s := by
  have go : ∀ (o : Obj) (St : Nat → Heap → Prop), Walks prog w A s.heap.objs.size [s.heap.objs.size] [s.heap.objs.size] xt.cps.size (SignAt xt) St → (∀ i h, St i h → ∃ o vs, h.get? s.heap.objs.size = some o ∧ o.data = .fields vs) → St 0 (s.heap.push o) →
      LoopAtV prog w A h₀ env x body Q E (.ref s.heap.objs.size) { s with heap := s.heap.push o } := by
    intro o St W hit hst
    refine loopJ J W hit (Nat.ne_of_lt F.ns.lt) (next_is_new F) hst (F.push _) (fun p hp => ⟨Heap.get?_push_of_some _ (N p hp).1, (N p hp).2⟩) hc h0 ?_ ?_
    · rintro i v m₁ news₁ h tk own hi ⟨c, u, hc', rfl⟩ hJ hC hO F₁ N₁
      exact turn i c u m₁ news₁ h tk own (by simpa using hc') hJ hC hO F₁ N₁
    · intro m₁ news₁ h tk hJ hC F₁ N₁
      exact done m₁ news₁ h tk (by simpa using hJ) hC F₁ N₁
  cases ha : xt.cps.all (· < 128)
  · exact wpAny_pyIter_wide ha (go _ _ (Walks.strWide hh _ xt tx) (fun i h ⟨o, ho, _, hd⟩ => ⟨o, _, ho, hd⟩) ⟨_, Heap.get?_push_size _ rfl, rfl, rfl⟩)
  · exact wpAny_pyIter_ascii ha (go _ _ (Walks.strAscii hh _ xt tx) (fun i h ⟨o, ho, _, hd⟩ => ⟨o, _, ho, hd⟩) ⟨_, Heap.get?_push_size _ rfl, rfl, rfl⟩)
/-- a for over a range by ones -/
theorem iterRange {r : Addr} {a₀ b₀ : Int} {t₀ u₀ v₀ : Tok} {n : Nat} {m₀ : Str → Option Value} {news : List (Addr × Obj)} (J : Nat → (Str → Option Value) → List (Addr × Obj) → Prop)
    (hh : A.handled = none) (hr : IsRange s.heap r a₀ b₀ 1 t₀ u₀ v₀) (hsmall : Builtin.Range.small a₀ b₀ 1 = true) (hn : Builtin.Range.rangeSize a₀ b₀ 1 = (n : Int)) (F : Fr h₀ env.locals s.heap m₀) (N : News h₀ env.locals s.heap news) (hc : Calm news) (h0 : J 0 m₀ news)
    (turn : ∀ (i : Nat) t m₁ news₁ h tk own, i < n → J i m₁ news₁ → Calm news₁ → (∀ p ∈ own, ∀ q ∈ news₁, p.1 ≠ q.1) → Fr h₀ env.locals h (fun y => if y = x then some (.int (a₀ + i) t) else m₁ y) → News h₀ env.locals h (news₁ ++ own) →
      wpAny (model prog w) A (execs body env) (TurnQ h₀ env.locals own (J (i + 1)) s Q) E { s with heap := h, toks := tk })
    (done : ∀ m₁ news₁ h tk, J n m₁ news₁ → Calm news₁ → Fr h₀ env.locals h m₁ → News h₀ env.locals h news₁ → Q .next { s with heap := h, toks := tk }) :
    wpAny (model prog w) A (pyIter (.ref r)) (fun it s₂ => LoopAtV prog w A h₀ env x body Q E it s₂) E s := by
  refine wpAny_pyIter_range hr hsmall ?_
  refine loopJ J (Walks.range hh s.heap.objs.size a₀ 1 n) (fun i h st => ⟨_, _, st, rfl⟩) (Nat.ne_of_lt F.ns.lt) (next_is_new F) (by show IsRangeIter _ _ _ _ _; rw [hn]; simpa using Heap.get?_push_size _ rfl) (F.push _)
    (fun p hp => ⟨Heap.get?_push_of_some _ (N p hp).1, (N p hp).2⟩) hc h0 ?_ done
  rintro i v m₁ news₁ h tk own hi ⟨t, rfl⟩ hJ hC hO F₁ N₁
  rw [Int.mul_one] at F₁
  exact turn i t m₁ news₁ h tk own hi hJ hC hO F₁ N₁
end
theorem finSub {h₀ : Heap} {s : Shared} {L : Addr} {m : Str → Option Value} {news : List (Addr × Obj)} {h' : Heap} {tk : Nat} {P : Value → List (Addr × Obj) → Prop} {v : Value} (led : List (Addr × Obj))
    (e : h₀ = s.heap) (F : Fr h₀ L h' m) (N : News h₀ L h' news) (sub : ∀ p ∈ led, p ∈ news) (hp : P v led) : Ends s P v ({ s with heap := h', toks := tk } : Shared) :=
  fin e F (fun p hq => N p (sub p hq)) hp
theorem fin4 {h₀ : Heap} {s : Shared} {L : Addr} {m : Str → Option Value} {h' : Heap} {tk : Nat} {P : Value → List (Addr × Obj) → Prop} {v : Value} {a b c d f : Addr × Obj} {own : List (Addr × Obj)}
    (e : h₀ = s.heap) (F : Fr h₀ L h' m) (N : News h₀ L h' (a :: b :: c :: d :: f :: own)) (hp : P v [a, b, d, f]) : Ends s P v ({ s with heap := h', toks := tk } : Shared) :=
  finSub [a, b, d, f] e F N (fun p hq => by
    simp only [List.mem_cons, List.not_mem_nil, or_false] at hq ⊢
    rcases hq with h | h | h | h <;> simp [h]) hp
open PyProof.Rows.LCg
section
variable {prog : Program} {w : World} {A : Around} {E : Value → Shared → Prop} {s : Shared} {h₀ : Heap} {L : Addr} {m : Str → Option Value} {env : Env}
theorem CompEnd.mono {I C D : Addr} {s₁ s₂ : Shared} {oI oC oD : Obj} {S : List (Addr × Obj) → Prop} {r r' : Value → List (Addr × Obj) → Prop} {y : Value} (hr : ∀ y l, r y l → r' y l) :
    LCg.CompEnd h₀ L m s₁ I oI C oC D oD S r y s₂ → LCg.CompEnd h₀ L m s₁ I oI C oC D oD S r' y s₂ := by
  rintro ⟨h', tk, news', e, F, N, o, hs, q⟩
  exact ⟨h', tk, news', e, F, N, o, hs, hr _ _ q⟩
/-- a comprehension's turns by an invariant over the made list and the ledger -/
theorem compInd {elt : Expr} {x : Str} {scope : Scope} {cl : List (Str × Addr)} {S : List (Addr × Obj) → Prop} {P : Nat → Value → Prop} {Fin : List Value → List (Addr × Obj) → Prop} {n : Nat}
    (J : Nat → List Value → List (Addr × Obj) → Prop)
    (step : ∀ i ys news, i < n → J i ys news → ∀ v I oI C oC D m₂ h tk (E' : Value → Shared → Prop), P i v → NsObj oC m₂ → m₂ x = some v → Fr h₀ L h m → News h₀ L h ((I, oI) :: (C, oC) :: (D, lst ys) :: news) → Off3 I C D news → ((@Ne Nat I C) ∧ (@Ne Nat I D) ∧ (@Ne Nat C D)) →
      wpAny (model prog w) A (eval elt (compEnvC scope cl C env)) (LCg.CompEnd h₀ L m { s with heap := h, toks := tk } I oI C oC D (lst ys) S (fun y news' => J (i + 1) (ys ++ [y]) news')) E' { s with heap := h, toks := tk })
    (fin : ∀ ys news, J n ys news → Fin ys news) :
    ∀ k i ys news, i + k = n → J i ys news → CompRest prog w A h₀ L m env elt x scope cl s S P Fin k i ys news := by
  intro k
  induction k with
  | zero => intro i ys news hk hj; exact fin _ _ (by rw [Nat.add_zero] at hk; exact hk ▸ hj)
  | succ k ih =>
    intro i ys news hk hj
    refine CompRest.succ ?_
    intro v I oI C oC D m₂ h tk E' hP hN hm F N o hne
    refine wpAny_mono (step i ys news (by omega) hj v I oI C oC D m₂ h tk E' hP hN hm F N o hne) (fun y s₂ hy => CompEnd.mono (fun y l hq => ih (i + 1) _ _ (by omega) hq) hy) fun _ _ e => e
def CompAt (prog : Program) (w : World) (A : Around) (h₀ : Heap) (L : Addr) (m : Str → Option Value) (env : Env) (elt : Expr) (x : Str) (scope : Scope) (cl : List (Str × Addr)) (Fin : Shared → List Value → List (Addr × Obj) → Prop) (it : Value) (s₂ : Shared) : Prop :=
  ∃ I fp n P St S news, it = .ref I ∧ Walks prog w A I fp [I] n P St ∧ n ≤ sizeLine ∧ (∀ i h, St i h → ∃ o, h.get? I = some o) ∧
    (∀ i h h' o nw, St i h → h.get? I = some o → h'.get? I = some o → (∀ b o, h₀.get? b = some o → h'.get? b = some o) → News h₀ L h' nw → S nw → St i h') ∧ St 0 s₂.heap ∧ (∀ b ∈ fp, b < s₂.heap.objs.size) ∧
    Fr h₀ L s₂.heap m ∧ News h₀ L s₂.heap news ∧ L ≠ I ∧ h₀.get? I = none ∧ (∀ p ∈ news, p.1 ≠ I) ∧ S news ∧ CompRest prog w A h₀ L m env elt x scope cl s₂ S P (Fin s₂) n 0 [] news
theorem compEval {elt iter : Expr} {x : Str} {px : Pos} {scope : Scope} {cl : List (Str × Addr)} {pos : Pos} {Q : Value → Shared → Prop} (F₀ : Fr h₀ L s.heap m)
    (hclos : closureFor scope env = pure cl) (hcell : ∀ y ∈ scope.names, y.2 ≠ .cell) (hkind : scope.kind = .function)
    (hnames : ∀ y ∈ scope.names, y.2 = .local → scope.names.lookup y.1 = some .local) (hx : scope.names.lookup x = some .local)
    (h : wpAny (model prog w) A (eval iter env) (fun xv s₁ => wpAny (model prog w) A (pyIter xv) (CompAt prog w A h₀ L m env elt x scope cl (fun s₂ => FinE h₀ L m s₂ Q)) E s₁) E s)
    (hs : ∀ x, foldedSetIterable iter env x = pure x := by intro _; rfl) :
    wpAny (model prog w) A (eval (.ListComp elt [⟨.Name x px, iter, [], 0⟩] scope pos) env) Q E s := by
  have _ := F₀
  rw [eval_ListComp]
  refine wpAny_comprehension_free (use := none) rfl hs hclos hkind hnames (wpAny_mono h (fun xv s₁ h₁ => wpAny_mono h₁ (fun it s₂ h₂ => ?_) fun _ _ e => e) fun _ _ e => e)
  obtain ⟨I, fp, n, P, St, S, news, rfl, W, hsz, hIo, hSt, hst, hfp, F, N, hIL, hI₀, off, hS, R⟩ := h₂
  refine block_U W hsz hIo hSt hcell hkind hx hst hfp F N hIL hI₀ off hS R ?_
  intro D C h tk m' ys news' F' N' o1 hn hC₀ hD₀ hCL hDL hCD offC fin
  refine ⟨m', hn, fun h'' hs'' => fin D h'' tk (F'.change hs'' hCL hC₀) (fun p hp => ?_) o1⟩
  refine ⟨hs''.extBut _ _ ?_ (N' p hp).1, (N' p hp).2⟩
  rcases List.mem_cons.mp hp with rfl | hp
  · exact Ne.symm hCD
  · exact offC p hp
theorem compAssign {elt iter : Expr} {x y : Str} {px py : Pos} {scope : Scope} {cl : List (Str × Addr)} {pos spos : Pos} {Q : Flow → Shared → Prop} (F₀ : Fr h₀ L s.heap m) (hLe : env.locals = L)
    (hsw : swapsWith (.ListComp elt [⟨.Name x px, iter, [], 0⟩] scope pos) (some (.Name y py)) spos.line env = pure true)
    (hclos : closureFor scope env = pure cl) (hcell : ∀ z ∈ scope.names, z.2 ≠ .cell) (hkind : scope.kind = .function)
    (hnames : ∀ z ∈ scope.names, z.2 = .local → scope.names.lookup z.1 = some .local) (hx : scope.names.lookup x = some .local)
    (hy : env.kindOf y = some .local) (hp : (env.scope.kind == .class || (env.scope.kind == .module && env.locals != env.globals)) = false)
    (h : wpAny (model prog w) A (eval iter env) (fun xv s₁ => wpAny (model prog w) A (pyIter xv) (CompAt prog w A h₀ L m env elt x scope cl (fun s₂ => FinA h₀ L m s₂ y Q)) E s₁) E s)
    (hs : ∀ x, foldedSetIterable iter env x = pure x := by intro _; rfl) :
    wpAny (model prog w) A (exec (.Assign [.Name y py] (.ListComp elt [⟨.Name x px, iter, [], 0⟩] scope pos) spos) env) Q E s := by
  have _ := F₀
  subst hLe
  rw [exec_Assign_Name_used _ _ _ _ hsw]
  refine wpAny_bind (wpAny_standAt (wpAny_bind ?_))
  show wpAny _ A (do let _ ← comprehension (.ListComp elt [⟨.Name x px, iter, [], 0⟩] scope pos) scope env _ (newList []) false (eval iter env) (some (assign (.Name y py) env))) _ _ s
  refine wpAny_bind (wpAny_mono (wpAny_comprehension_free (use := some (assign (.Name y py) env)) (Q := fun _ s' => Q .next s') rfl hs hclos hkind hnames
    (wpAny_mono h (fun xv s₁ h₁ => wpAny_mono h₁ (fun it s₂ h₂ => ?_) fun _ _ e => e) fun _ _ e => e)) (fun _ s' hq => wpAny_pure (wpAny_pure hq)) fun _ _ e => e)
  obtain ⟨I, fp, n, P, St, S, news, rfl, W, hsz, hIo, hSt, hst, hfp, F, N, hIL, hI₀, off, hS, R⟩ := h₂
  refine block_U W hsz hIo hSt hcell hkind hx hst hfp F N hIL hI₀ off hS R ?_
  intro D C h' tk m' ys news' F' N' o1 hn hC₀ hD₀ hCL hDL hCD offC fin
  show wpAny _ A (assign (.Name y py) env (.ref D)) _ _ _
  refine wpAny_assign_Name (wpAny_storeName_local hy F'.ns (fun h₂ hn₂ hs₂ => ?_) hp)
  have hL₀ : h₀.get? env.locals = none := Heap.get?_none_of_le F'.above
  have F₂ : Fr h₀ env.locals h₂ (fun z => if z = y then some (.ref D) else m z) := ⟨hn₂, fun b o e => hs₂.extBut b o (fun q => by rw [q, hL₀] at e; cases e) (F'.keep b o e), F'.above⟩
  refine ⟨m', hn.sameBut hs₂ hCL, fun h'' hs'' => fin D h'' _ (F₂.change hs'' hCL hC₀) (fun p hp => ?_) o1⟩
  have z : h₂.get? p.1 = some p.2 := hs₂.extBut _ _ (N' p hp).2.1 (N' p hp).1
  refine ⟨hs''.extBut _ _ ?_ z, (N' p hp).2⟩
  rcases List.mem_cons.mp hp with rfl | hp
  · exact Ne.symm hCD
  · exact offC p hp
theorem compStr {elt : Expr} {x : Str} {scope : Scope} {cl : List (Str × Addr)} {Fin : Shared → List Value → List (Addr × Obj) → Prop} {xt : Str} {tx : Tok} {news : List (Addr × Obj)}
    (hh : A.handled = none) (F : Fr h₀ L s.heap m) (N : News h₀ L s.heap news) (hsz : xt.cps.size ≤ sizeLine)
    (R : ∀ g, CompRest prog w A h₀ L m env elt x scope cl { s with heap := g } (fun _ => True) (SignAt xt) (Fin { s with heap := g }) xt.cps.size 0 [] news) :
    wpAny (model prog w) A (pyIter (.str xt tx)) (CompAt prog w A h₀ L m env elt x scope cl Fin) E s := by
  have go : ∀ (o : Obj) (St : Nat → Heap → Prop), Walks prog w A s.heap.objs.size [s.heap.objs.size] [s.heap.objs.size] xt.cps.size (SignAt xt) St → (∀ i h, St i h → ∃ o, h.get? s.heap.objs.size = some o) →
      (∀ i h h' o, St i h → h.get? s.heap.objs.size = some o → h'.get? s.heap.objs.size = some o → St i h') → St 0 (s.heap.push o) →
      CompAt prog w A h₀ L m env elt x scope cl Fin (.ref s.heap.objs.size) { s with heap := s.heap.push o } := by
    intro o St W h1 h2 h3
    refine ⟨_, _, _, _, _, (fun _ => True), news, rfl, W, hsz, h1, (fun i h h' o nw a b c _ _ _ => h2 i h h' o a b c), h3, (fun b hb => ?_), F.keeps fun _ _ e => Heap.get?_push_of_some _ e, N.grown fun _ _ e => Heap.get?_push_of_some _ e, Nat.ne_of_lt F.ns.lt, next_is_new F, (fun p hp => Nat.ne_of_lt (Heap.lt_size (N p hp).1)), trivial, R _⟩
    rw [List.mem_singleton.mp hb]
    show s.heap.objs.size < (s.heap.push _).objs.size
    rw [Heap.size_push]; exact Nat.lt_succ_self _
  cases ha : xt.cps.all (· < 128)
  · refine wpAny_pyIter_wide ha (go _ _ (Walks.strWide hh _ xt tx) (fun i h ⟨o, ho, _⟩ => ⟨o, ho⟩) (fun i h h' o ⟨o', ho, r⟩ e e' => ?_) ⟨_, Heap.get?_push_size _ rfl, rfl, rfl⟩)
    rw [e] at ho; cases ho; exact ⟨o, e', r⟩
  · refine wpAny_pyIter_ascii ha (go _ _ (Walks.strAscii hh _ xt tx) (fun i h ⟨o, ho, _⟩ => ⟨o, ho⟩) (fun i h h' o ⟨o', ho, r⟩ e e' => ?_) ⟨_, Heap.get?_push_size _ rfl, rfl, rfl⟩)
    rw [e] at ho; cases ho; exact ⟨o, e', r⟩
theorem compRange {elt : Expr} {x : Str} {scope : Scope} {cl : List (Str × Addr)} {Fin : Shared → List Value → List (Addr × Obj) → Prop} {r : Addr} {a b : Int} {t u v : Tok} {n : Nat} {news : List (Addr × Obj)}
    (hh : A.handled = none) (F : Fr h₀ L s.heap m) (N : News h₀ L s.heap news) (hr : IsRange s.heap r a b 1 t u v) (hsm : Builtin.Range.small a b 1 = true) (hn : Builtin.Range.rangeSize a b 1 = ((n : Nat) : Int)) (hsz : n ≤ sizeLine)
    (R : ∀ g, CompRest prog w A h₀ L m env elt x scope cl { s with heap := g } (fun _ => True) (fun i v => ∃ t, v = .int (a + (i : Int)) t) (Fin { s with heap := g }) n 0 [] news) :
    wpAny (model prog w) A (pyIter (.ref r)) (CompAt prog w A h₀ L m env elt x scope cl Fin) E s := by
  refine wpAny_pyIter_range hr hsm ?_
  refine ⟨_, _, _, _, _, (fun _ => True), news, rfl, range_walks hh a n, hsz, (fun i h st => ⟨_, st⟩), range_st, (by show IsRangeIter _ _ _ _ _; rw [hn]; simpa using Heap.get?_push_size _ rfl), (fun b hb => ?_), F.keeps fun _ _ e => Heap.get?_push_of_some _ e, N.grown fun _ _ e => Heap.get?_push_of_some _ e, Nat.ne_of_lt F.ns.lt, next_is_new F, (fun p hp => Nat.ne_of_lt (Heap.lt_size (N p hp).1)), trivial, R _⟩
  rw [List.mem_singleton.mp hb]
  show s.heap.objs.size < (s.heap.push _).objs.size
  rw [Heap.size_push]; exact Nat.lt_succ_self _
end
theorem enterI {w : World} {A : Around} {s : Shared} {P : Value → List (Addr × Obj) → Prop} {C f : Addr} {name qual : Str} {params : Arguments} {body : List Stmt} {scope : Scope} {dV kV doc pm cdv ct oc : Value} {an od : Option Addr} {osl : Array (Option Value)} {args : List Value} (binds : Addr → List (Str × Value))
    (G : Gd w s.heap) (hm : makesIn (hd.heap_39 w.params) C = true) (hi : findIn (hd.heap_39 w.params) (.ref C) "__init__" = some (some (.ref f))) (hf : typeIn (hd.heap_39 w.params) (.ref f) = some (.type "function"))
    (ho : (hd.heap_39 w.params).lookup f = some ⟨oc, od, .func (fnOf name qual params body scope dV kV doc pm an cdv ct), osl⟩) (hcd : codeIn (hd.heap_39 w.params) cdv qual = true) (hroom : A.depth + 1 < recursionLimit)
    (hbind : ∀ s' x, BindsTo s' (fnOf name qual params body scope dV kV doc pm an cdv ct) ⟨.ref x :: args, []⟩ (binds x)) (hloc : ∀ x, ∀ y ∈ binds x, scope.names.lookup y.1 = some .local)
    (h : ∀ x dx L mg mb h₁ tk, dx < x → x < L → Fr s.heap L h₁ (fun y => (binds x).reverse.lookup y) → News s.heap L h₁ [(x, instObj C dx), (dx, dictOf [] 0)] → (hd.heap_39 w.params).In s.heap → ∀ mean, Top hd.view_39 (looseW hd.view_39 [Str.ofString "Whitespace"]) mean mg mb s.heap →
      wpAny (model PG w) ((A.under (.builtin "type.__call__" ⟨.ref C :: args, []⟩)).deeper (envOf qual scope L f cdv)) (execs body (envOf qual scope L f cdv))
        (fun fl s' => (match fl with | .ret v => v | _ => .none) = .none ∧ Ends s P (.ref x) s') (fun _ _ => False)
        { s with heap := h₁, toks := tk })
    (hcell : ∀ x ∈ scope.names, x.2 ≠ .cell) (hco : scope.isCoroutine = false := by rfl) (hgen : scope.isGenerator = false := by rfl) (hk : scope.kind = .function := by rfl) :
    Gives w A (.ref C) args s P := by
  intro R hR
  obtain ⟨mean, mg, mb, T⟩ := G.T
  obtain ⟨hh, g, d, t, os⟩ := s
  dsimp only at T G h hR ⊢
  refine make_core (makes_of G.X hm) (looks_findIn G.X hi) (fun self => bind_fn G.X self hf) (.inl rfl) ?_
  have st : ∀ b o, hh.get? b = some o → ((hh.push emptyDict).push (instObj C hh.objs.size)).get? b = some o := fun b o e => Heap.get?_push_of_some _ (Heap.get?_push_of_some _ e)
  have hsz : ((hh.push emptyDict).push (instObj C hh.objs.size)).objs.size = hh.objs.size + 2 := by rw [Heap.size_push, Heap.size_push]
  have X' := G.X.keeps st
  refine codeAny_call_def (fd := fnOf name qual params body scope dV kV doc pm an cdv ct) (body := body) (binds := binds (hh.objs.size + 1)) (by show A.depth + 1 < _; exact hroom) (X' _ _ ho) rfl (T.nolimit.keeps st) (codeRec_of X' hcd) rfl (hbind _ _) hcell (hloc _) (fun h₁ hns hk₁ => ?_) hco hgen hk
  have e1 : (hh.push emptyDict).get? hh.objs.size = some emptyDict := Heap.get?_push_size _ rfl
  have e2 : ((hh.push emptyDict).push (instObj C hh.objs.size)).get? (hh.objs.size + 1) = some (instObj C hh.objs.size) := by
    have := Heap.get?_push_size (h := hh.push emptyDict) (o := instObj C hh.objs.size) rfl
    rwa [Heap.size_push] at this
  have none_of : ∀ a, hh.objs.size ≤ a → hh.get? a = none := fun a ha => by
    cases e : hh.get? a with
    | none => rfl
    | some o' => exact absurd (Heap.lt_size e) (Nat.not_lt.mpr ha)
  have hx1 : hh.objs.size + 1 < ((hh.push emptyDict).push (instObj C hh.objs.size)).objs.size := by rw [hsz]; exact Nat.lt_succ_self _
  refine wpAny_mono (h (hh.objs.size + 1) hh.objs.size ((hh.push emptyDict).push (instObj C hh.objs.size)).objs.size mg mb h₁ _ (Nat.lt_succ_self _) hx1 ⟨hns, fun b o e => hk₁ b o (st b o e), Nat.le_of_lt (Nat.lt_of_succ_lt hx1)⟩ (fun p hp => ?_) G.X mean T) (fun fl s' hx => ?_) fun _ _ x => x.elim
  · rcases List.mem_cons.mp hp with rfl | hp
    · exact ⟨hk₁ _ _ e2, Nat.ne_of_lt hx1, none_of _ (Nat.le_succ _)⟩
    · rw [List.mem_singleton.mp hp]
      exact ⟨hk₁ _ _ (Heap.get?_push_of_some _ e1), Nat.ne_of_lt (Nat.lt_of_succ_lt hx1), none_of _ (Nat.le_refl _)⟩
  · obtain ⟨hv, h', tk', led, rfl, st', fr, hp⟩ := hx
    exact ⟨hv, hR h' tk' _ led st' fr hp⟩
theorem lookup_ne {α : Type} {y a : Str} {b : α} {l : List (Str × α)} (h : ¬ y = a) : List.lookup y ((a, b) :: l) = List.lookup y l := by
  have e : (y == a) = false := by simpa using h
  rw [List.lookup_cons, e]
/-- what __init__ keeps while it reads the signs -/
structure Wst where
  cs : List Int
  b : Nat
  n : Nat
  nt : Nat
def bump (cs : List Int) (b : Nat) : List Int := (cs ++ List.replicate (b + 1 - cs.length) 0).set b ((cs ++ List.replicate (b + 1 - cs.length) 0).getD b 0 + 1)
def wstep (σ : Wst) (c : Nat) : Wst := if c = 32 then { σ with b := σ.b + 1, n := σ.n + 1 } else ⟨bump σ.cs σ.b, 0, σ.n + 1, σ.nt + 1⟩
def wst (l : List Nat) : Wst := l.foldl wstep ⟨[], 0, 0, 0⟩
theorem wst_snoc (l : List Nat) (c : Nat) : wst (l ++ [c]) = wstep (wst l) c := by simp [wst, List.foldl_append]
theorem bump_length (cs : List Int) (b : Nat) : (bump cs b).length = max cs.length (b + 1) := by
  simp only [bump, List.length_set, List.length_append, List.length_replicate]; omega
theorem wst_bounds (l : List Nat) : (wst l).b ≤ l.length ∧ (wst l).cs.length ≤ l.length ∧ (wst l).n = l.length ∧ (wst l).nt ≤ l.length := by
  have step : ∀ (k : Nat) (σ : Wst) (c : Nat), σ.b ≤ k ∧ σ.cs.length ≤ k ∧ σ.n = k ∧ σ.nt ≤ k → (wstep σ c).b ≤ k + 1 ∧ (wstep σ c).cs.length ≤ k + 1 ∧ (wstep σ c).n = k + 1 ∧ (wstep σ c).nt ≤ k + 1 := by
    intro k σ c ⟨h1, h2, h3, h4⟩
    unfold wstep
    split
    · dsimp only; omega
    · simp only [bump_length]; omega
  have all : ∀ (l : List Nat) (k : Nat) (σ : Wst), σ.b ≤ k ∧ σ.cs.length ≤ k ∧ σ.n = k ∧ σ.nt ≤ k → (l.foldl wstep σ).b ≤ k + l.length ∧ (l.foldl wstep σ).cs.length ≤ k + l.length ∧ (l.foldl wstep σ).n = k + l.length ∧ (l.foldl wstep σ).nt ≤ k + l.length := by
    intro l
    induction l with
    | nil => intro k σ h; simpa using h
    | cons c r ih =>
      intro k σ h
      have := ih (k + 1) _ (step k σ c h)
      simp only [List.foldl_cons, List.length_cons]
      omega
  have := all l 0 ⟨[], 0, 0, 0⟩ (by simp)
  simpa [wst] using this
theorem bump_grow (cs : List Int) (b : Nat) (h : cs.length ≤ b) : (cs ++ (List.replicate ((b : Int) - (cs.length : Int) + 1).toNat [(0 : Int)]).flatten).set (b : Int).toNat ((cs ++ (List.replicate ((b : Int) - (cs.length : Int) + 1).toNat [(0 : Int)]).flatten).getD (b : Int).toNat 0 + 1) = bump cs b := by
  have e : ((b : Int) - (cs.length : Int) + 1).toNat = b + 1 - cs.length := by omega
  rw [e, Int.toNat_natCast, List.flatten_replicate_singleton]
  rfl
theorem bump_set (cs : List Int) (b : Nat) (h : ¬ cs.length ≤ b) : cs.set (b : Int).toNat (cs.getD (b : Int).toNat 0 + 1) = bump cs b := by
  have e : b + 1 - cs.length = 0 := by omega
  rw [Int.toNat_natCast]
  simp only [bump, e, List.replicate_zero, List.append_nil]
/-- a Whitespace object, by what it holds -/
structure WsAll where
  (dx tN tC : Addr) (vs : List Value) (kN kC : Nat) (h1 : Int) (t1 : Tok) (raw : Value) (h2 : Int) (t2 t2' : Tok) (h3 : Int) (t3 t3' : Tok) (h4 : Int) (t4 : Tok) (h5 : Int) (t5 tb : Tok)
abbrev WsAll.dict (P : WsAll) (σ : Wst) : Obj := dictOf [⟨P.h1, .str (Str.ofString "raw") P.t1, P.raw⟩, ⟨P.h2, .str (Str.ofString "n") P.t2, .int σ.n P.t2'⟩, ⟨P.h3, .str (Str.ofString "nt") P.t3, .int σ.nt P.t3'⟩, ⟨P.h4, .str (Str.ofString "norm") P.t4, .ref P.tN⟩,
      ⟨P.h5, .str (Str.ofString "is_simple") P.t5, .bool (decide ((σ.cs.length : Int) ≤ 1))⟩] 5
def WsAt (has : Addr → Obj → Prop) (x : Addr) (σ : Wst) : Prop :=
  ∃ P : WsAll, has x (instObj 76 P.dx) ∧ has P.dx (P.dict σ) ∧ has P.tN { cls := .type "tuple", data := .seq [.ref P.tC, .int σ.b P.tb].toArray P.kN } ∧ has P.tC { cls := .type "tuple", data := .seq P.vs.toArray P.kC } ∧ IntsAre P.vs σ.cs
theorem WsAt.mono {has has' : Addr → Obj → Prop} {x : Addr} {σ : Wst} (h : ∀ a o, has a o → has' a o) : WsAt has x σ → WsAt has' x σ :=
  fun ⟨P, a, b, c, e, f⟩ => ⟨P, h _ _ a, h _ _ b, h _ _ c, h _ _ e, f⟩
theorem news_drop {h₀ h : Heap} {L : Addr} {a b : Addr × Obj} {l : List (Addr × Obj)} (N : News h₀ L h (a :: b :: l)) : News h₀ L h (a :: l) := fun p hp => N p (by
  rcases List.mem_cons.mp hp with rfl | hp
  · exact List.mem_cons_self
  · exact List.mem_cons_of_mem _ (List.mem_cons_of_mem _ hp))
local macro_rules | `(tactic| walk_at "real0") => `(tactic| ((rename Fr _ _ _ _ => lF'); (with_unfolding_all refine' For_invVF lF' ?k1 ?k2 ?_; (case k1 => exact rfl); (case k2 => exact rfl); k_whole)))
local macro_rules | `(tactic| k_ne) => `(tactic| ((rename News _ _ _ _ => nN'); exact news_ne nN' (by k_mem) (by k_mem) (by rfl)))
local macro_rules | `(tactic| k_all) => `(tactic| assumption)
-- two maps of names are one: the names by computation, the others fall through
theorem prep4 : True := by
  k_with_none
  k_with "it" => (simp only [decide_eq_true_eq, beq_iff_eq, bne_iff_ne, ne_eq]; omega)
  k_with "ite" => first | refine ite_neg (by walk_at "it") ?_ | refine ite_pos (by walk_at "it") ?_
  k_with "st" => first | walk1 | (dsimp only; walk1)
  k_with "go" => repeat' ((fail_if_success (with_reducible show wpAny _ _ (pyIter _) _ _ _)); (walk_at "st"))
  k_with "for" => walk_at "real0"
  k_with "exec For Name Attribute cons nil" => (walk_at "for")
  k_with "exec For Name Call cons nil" => (walk_at "for")
  k_with "calm" => (repeat' (first | exact Calm.nil | refine Calm.cons (by intro vs h; cases h) ?_ | assumption))
  k_with "sub" => (intro p hp; (simp only [List.mem_cons, List.mem_append, List.not_mem_nil, or_false, false_or] at hp ⊢); first | assumption | grind)
  k_with "same map" => exact ov_eq (by (repeat' (first | exact List.forall_mem_nil _ | refine List.forall_mem_cons.mpr ⟨rfl, ?_⟩))) (fun _ _ => rfl)
  w_top off
  trivial
structure IwP where
  (D : Addr) (vs : List Value) (k : Nat) (tb tn tnt tS tT : Tok) (hsh : Int) (tr : Tok) (m' : Str → Option Value)
theorem init_ws {w : World} {d u : Nat} {fr : Option (List Env)} {g : Option (List Code)} {s : Shared} {pre post : List Nat} {t : Tok} (G : Gd w s.heap) (hroom : d < 890) (hpre : ∀ c ∈ pre, c = 32 ∨ c = 9) (hlen : pre.length ≤ 100000) :
    Gives w ⟨none, d, fr, g, u⟩ (.ref 76) [.str ⟨(pre ++ 120 :: post).toArray⟩ t] s (fun v led => ∃ x, v = .ref x ∧ WsAt (fun a o => (a, o) ∈ led) x (wst pre) ∧ Calm led) := by
  refine enterI (fun x => [(Str.ofString "self", .ref x), (Str.ofString "ws", .str ⟨(pre ++ 120 :: post).toArray⟩ t)]) G (by k_is) (by k_is) (by k_is) (by k_is) (by k_is) (by simp only [recursionLimit]; omega) (fun _ _ => BindsTo.of_eq rfl) (fun _ => locs rfl) ?_ (by decide)
  intro x dx L mg mb h₁ tk hl1 hl2 F N X mean T
  replace hl1 := ltN hl1
  replace hl2 := ltN hl2
  walk_at "go"
  rename Fr _ _ _ _ => F0
  rename News _ _ _ _ => N0
  refine iterStr (fun i m news => i ≤ pre.length ∧ ∃ P : IwP, @LT.lt Nat _ x P.D ∧ IntsAre P.vs (wst (pre.take i)).cs ∧
      m = ov [(Str.ofString "count", some (.ref P.D)), (Str.ofString "b", some (.int (wst (pre.take i)).b P.tb)), (Str.ofString "n", some (.int (wst (pre.take i)).n P.tn)), (Str.ofString "nt", some (.int (wst (pre.take i)).nt P.tnt)),
        (Str.ofString "S", some (.str (Str.ofString " ") P.tS)), (Str.ofString "T", some (.str (Str.ofString "\t") P.tT)), (Str.ofString "self", some (.ref x))] P.m' ∧
      news = [(P.D, W.listOf P.vs.toArray P.k), (x, instObj 76 dx), (dx, dictOf [⟨P.hsh, .str (Str.ofString "raw") P.tr, .str ⟨(pre ++ 120 :: post).toArray⟩ t⟩] 1)]) rfl F0 (news_drop N0) ?_ ?_ ?_ ?_
  · walk_at "calm"
  · exact ⟨Nat.zero_le _, ⟨_, [], _, _, _, _, _, _, _, _, _⟩, by dsimp only; omega, IntsAre.nil, by walk_at "same map", rfl⟩
  · rintro i c t₁ m₁ news₁ h tk₁ own hc ⟨hi, P, hxD, hints, rfl, rfl⟩ hcalm hown F1 N1
    have hb := wst_bounds (pre.take i)
    have hlen1 : (pre.take i).length = i := by simp [hi]
    rw [hlen1] at hb
    simp only [List.cons_append, List.nil_append] at N1
    rcases Nat.lt_or_eq_of_le hi with hlt | heq
    · have hci : pre[i]? = some c := by simpa [List.getElem?_append_left hlt] using hc
      have hs : wst (pre.take (i + 1)) = wstep (wst (pre.take i)) c := by
        rw [List.take_add_one, hci]; exact wst_snoc _ _
      have hcc := hpre c (List.mem_of_getElem? hci)
      rw [hs]
      generalize wst (pre.take i) = σ at *
      have ho1 : ∀ p ∈ own, p.1 ≠ P.D := fun p hp => hown p hp _ List.mem_cons_self
      rcases hcc with rfl | rfl
      · have e : wstep σ 32 = ⟨σ.cs, σ.b + 1, σ.n + 1, σ.nt⟩ := rfl
        rw [e]
        refine hideQ fun Tq hTq => ?_
        walk_at "go"
        rw [hTq]
        exact TurnQ.next _ (by assumption) (by assumption) (by walk_at "sub") (by walk_at "sub") hcalm ⟨hlt, ⟨P.D, P.vs, _, _, _, _, _, _, _, _, _⟩, by dsimp only; exact hxD, by dsimp only; exact hints, by dsimp only; walk_at "same map", by (dsimp only <;> rfl)⟩
      · have e : wstep σ 9 = ⟨bump σ.cs σ.b, 0, σ.n + 1, σ.nt + 1⟩ := rfl
        rw [e]
        refine hideQ fun Tq hTq => ?_
        walk_at "go"
        · rename IntsAre (List.set _ _ _) _ => hi2
          rw [bump_grow _ _ (by omega)] at hi2
          rename News _ _ _ _ => N2
          rw [hTq]
          exact TurnQ.head [(x, instObj 76 dx), (dx, dictOf [⟨P.hsh, .str (Str.ofString "raw") P.tr, .str ⟨(pre ++ 120 :: post).toArray⟩ t⟩] 1)] N2 (by assumption) (by walk_at "sub") (by walk_at "sub") (by walk_at "calm") ⟨hlt, ⟨_, _, _, _, _, _, _, _, _, _, _⟩, by dsimp only; omega, hi2, by walk_at "same map", rfl⟩
        · rename IntsAre (List.set _ _ _) _ => hi2
          rw [bump_set _ _ (by omega)] at hi2
          rename News _ _ _ _ => N2
          rw [hTq]
          exact TurnQ.head [(x, instObj 76 dx), (dx, dictOf [⟨P.hsh, .str (Str.ofString "raw") P.tr, .str ⟨(pre ++ 120 :: post).toArray⟩ t⟩] 1)] N2 (by assumption) (by walk_at "sub") (by walk_at "sub") (by walk_at "calm") ⟨hlt, ⟨_, _, _, _, _, _, _, _, _, _, _⟩, by dsimp only; omega, hi2, by walk_at "same map", rfl⟩
    · have hc' : c = 120 := by subst heq; simpa using hc.symm
      subst hc'
      have hpe : pre.take i = pre := by rw [heq]; exact List.take_length
      rw [hpe] at hints hb F1
      have ho1 : ∀ p ∈ own, p.1 ≠ dx := fun p hp => hown p hp _ (List.mem_cons_of_mem _ (List.mem_cons_of_mem _ List.mem_cons_self))
      refine hideQ fun Tq hTq => ?_
      walk_at "go"
      rw [hTq]
      dsimp only
      refine TurnQ.brk ?_
      walk_at "go"
      rename News _ _ _ _ => N2
      exact fin4 rfl (by assumption) N2 ⟨x, rfl, ⟨⟨dx, _, _, P.vs, _, _, _, _, _, _, _, _, _, _, _, _, _, _, _, _⟩, by dsimp only; k_mem, by dsimp only [WsAll.dict]; k_mem, by dsimp only; k_mem, by dsimp only; k_mem, hints⟩, by walk_at "calm"⟩
  · rintro m₁ news₁ h tk₁ ⟨hi, _⟩
    simp at hi
    omega
theorem InstAt.of_base {h₀ h : Heap} {L : Addr} {m : Str → Option Value} {x C dx : Addr} {od : Obj} (F : Fr h₀ L h m) (hx : h₀.get? x = some (instObj C dx)) (hd : h₀.get? dx = some od) : InstAt h x (instObj C dx) C (some od) :=
  ⟨F.keep _ _ hx, rfl, rfl, F.keep _ _ hd⟩
theorem tupAt {h : Heap} {a : Addr} {vs : List Value} {n : Nat} (e : h.get? a = some { cls := .type "tuple", data := .seq vs.toArray n }) : IsTup h a vs.toArray := ⟨_, e, rfl, _, rfl⟩
abbrev WsH (h : Heap) (x : Addr) (σ : Wst) : Prop := WsAt (fun a o => h.get? a = some o) x σ
section
variable {prog : Program} {w : World} {A : Around} {E : Value → Shared → Prop} {s : Shared}
theorem lenTup {h₀ : Heap} {L t : Addr} {m : Str → Option Value} {vs : List Value} {ns : List Int} {Q : Value → Shared → Prop} (F : Fr h₀ L s.heap m) (ht : IsTup h₀ t vs.toArray) (hi : IntsAre vs ns) (hfit : ns.length ≤ 100000)
    (h : Q (.int ns.length (s.toks + 1)) { s with toks := s.toks + 1 + 1 }) : wpAny (model prog w) A (call (.builtin "len") [.ref t]) Q E s := by
  have e : vs.toArray.size = ns.length := by simp [hi.length]
  exact len_tuple (F.tup ht) (by rw [e]; omega) (by rw [e]; exact h)
theorem itemTup {h₀ : Heap} {L t : Addr} {m : Str → Option Value} {vs : List Value} {ns : List Int} {value slice : Expr} {k : Int} {u : Tok} {Q : Value → Shared → Prop} (F : Fr h₀ L s.heap m) (ht : IsTup h₀ t vs.toArray) (hi : IntsAre vs ns) (h0 : 0 ≤ k) (h1 : k < ns.length) (hfit : ns.length ≤ 100000)
    (h : ∀ t', Q (.int (ns.getD k.toNat 0) t') s)
    (hs : subscripted slice false (.ref t) (.int k u) = operate [.ref t, .int k u] (getItem (.ref t) (.int k u)) := by with_unfolding_all rfl) :
    wpAny (model prog w) A (subscriptTail value slice (.ref t) (.int k u)) Q E s := by
  have hk : k.toNat < ns.length := by omega
  obtain ⟨t', ht'⟩ := hi.get k.toNat (ns.getD k.toNat 0) (by simp [hk])
  refine item_tupleT (F.tup ht) (by omega) (by omega) (j := k.toNat) ?_ ht' (h t') hs
  have := hi.length
  unfold seqIndex?
  simp only [this]
  split
  · omega
  · rename_i hn
    simp; omega
end
theorem rangeSize1 (a b : Int) : Builtin.Range.rangeSize a b 1 = ((b - a).toNat : Int) := by
  unfold Builtin.Range.rangeSize
  simp only [show (1 : Int) > 0 by decide, if_true, Int.ediv_one]
  split <;> omega
theorem rangeSmall1 {a b : Int} (h1 : -1000000 ≤ a) (h2 : a ≤ 1000000) (h3 : -1000000 ≤ b) (h4 : b ≤ 1000000) : Builtin.Range.small a b 1 = true := by
  unfold Builtin.Range.small
  rw [rangeSize1]
  simp only [Builtin.Range.rangeFitsLong, Bool.and_eq_true, decide_eq_true_eq, show (1 : Int) > 0 by decide, if_true, Bool.or_eq_true]
  refine ⟨⟨⟨⟨⟨by omega, by omega⟩, by omega, by omega⟩, by omega, by omega⟩, by omega, by omega⟩, .inr ⟨by omega, by omega⟩⟩
theorem ite_max (a b : Int) : (if b > a then b else a) = max a b := by
  rw [Int.max_def]; split <;> split <;> omega
/-- indent_level's sum over the first k places from ts on -/
def ilsum (cs : List Int) (ts : Int) (k : Nat) : Int := ((List.range k).map fun j => Int.fdiv (ts + (j : Nat)) ts * cs.getD (ts + (j : Nat)).toNat 0).sum
theorem ilsum_succ (cs : List Int) (ts : Int) (k : Nat) : ilsum cs ts (k + 1) = ilsum cs ts k + Int.fdiv (ts + (k : Nat)) ts * cs.getD (ts + (k : Nat)).toNat 0 := by
  simp [ilsum, List.range_succ]
def lvl (σ : Wst) (ts : Int) : Int := σ.b + ts * (ilsum σ.cs ts ((σ.cs.length : Int) - ts).toNat + σ.nt)
-- two maps of names are one: the names by computation, the others fall through
-- objects that stood before the call
local macro_rules | `(tactic| k_inst) => `(tactic| exact InstAt.of_base (by assumption) (by assumption) (by assumption))
theorem prep5 : True := by
  k_with_none
  k_with "it" => (simp only [decide_eq_true_eq, beq_iff_eq, bne_iff_ne, ne_eq]; omega)
  k_with "ite" => first | refine ite_neg (by walk_at "it") ?_ | refine ite_pos (by walk_at "it") ?_
  k_with "st" => first | walk1 | (dsimp only; walk1)
  k_with "go" => repeat' ((fail_if_success (with_reducible show wpAny _ _ (pyIter _) _ _ _)); (walk_at "st"))
  k_with "for" => walk_at "real0"
  k_with "exec For Name Attribute cons nil" => (walk_at "for")
  k_with "exec For Name Call cons nil" => (walk_at "for")
  k_with "exec For Name Constant cons nil" => (walk_at "for")
  k_with "calm" => (repeat' (first | exact Calm.nil | refine Calm.cons (by intro vs h; cases h) ?_ | assumption))
  k_with "sub" => (intro p hp; (simp only [List.mem_cons, List.mem_append, List.not_mem_nil, or_false, false_or] at hp ⊢); first | assumption | grind)
  k_with "same map" => exact ov_eq (by (repeat' (first | exact List.forall_mem_nil _ | refine List.forall_mem_cons.mpr ⟨rfl, ?_⟩))) (fun _ _ => rfl)
  k_with "call builtin:len" => refine lenTup (by assumption) (by assumption) (by assumption) (by omega) ?_
  k_with "subscriptTail Name Name ref int" => (refine itemTup (by assumption) (by assumption) (by assumption) (by omega) (by omega) (by omega) ?_; intro _)
  k_with "execs cons Assign cons" => refine wpAny_execs_cons ?_
  k_with "eval ListComp" => ((rename Fr _ _ _ _ => lF'); (with_unfolding_all refine' compEval lF' ?k1 ?k2 ?k3 ?k4 ?k5 ?_; (case k1 => exact rfl); (case k2 => decide); (case k3 => exact rfl); (case k4 => decide); (case k5 => exact rfl); k_whole))
  w_top off
  trivial
theorem longest {w : World} {d u : Nat} {fr : Option (List Env)} {g : Option (List Code)} {s : Shared} {x : Addr} {σ : Wst} (W : WsH s.heap x σ) (G : Gd w s.heap) (hroom : d < 890) (hlen : σ.cs.length ≤ 100000) :
    Gives w ⟨none, d, fr, g, u⟩ (.ref 38) [.ref x] s (fun v _ => ∃ t, v = .int (max ((σ.cs.length : Int) - 1) σ.b) t) := by
  obtain ⟨P, e1, e2, e3, e4, hints⟩ := W
  have hT1 := tupAt e3
  have hT2 := tupAt e4
  refine enter [(Str.ofString "self", .ref x)] G (by k_is) (by k_is) (by simp only [recursionLimit]; omega) (BindsTo.of_eq rfl) (locs rfl) ?_ (by decide)
  intro L mg mb h₁ tk hL F N X mean T
  walk_at "go"
  rw [ite_max]
  exact fin rfl (by assumption) (by assumption) ⟨_, rfl⟩
theorem level {w : World} {d u : Nat} {fr : Option (List Env)} {g : Option (List Code)} {s : Shared} {x : Addr} {σ : Wst} {ts : Int} {tt : Tok} (W : WsH s.heap x σ) (G : Gd w s.heap) (hroom : d < 890) (hlen : σ.cs.length ≤ 100000) (hts : 1 ≤ ts) (hts2 : ts ≤ 100000) :
    Gives w ⟨none, d, fr, g, u⟩ (.ref 45) [.ref x, .int ts tt] s (fun v _ => ∃ t, v = .int (lvl σ ts) t) := by
  obtain ⟨P, e1, e2, e3, e4, hints⟩ := W
  have hT1 := tupAt e3
  have hT2 := tupAt e4
  refine enter [(Str.ofString "self", .ref x), (Str.ofString "tabsize", .int ts tt)] G (by k_is) (by k_is) (by simp only [recursionLimit]; omega) (BindsTo.of_eq rfl) (locs rfl) ?_ (by decide)
  intro L mg mb h₁ tk hL F N X mean T
  walk_at "go"
  rename Fr _ _ _ _ => F0
  rename News _ _ _ _ => N0
  refine iterRange (n := ((σ.cs.length : Int) - ts).toNat) (fun i m news => ∃ til m', news = [] ∧
      m = ov [(Str.ofString "il", some (.int (ilsum σ.cs ts i) til)), (Str.ofString "trailing", some (.int σ.b P.tb)), (Str.ofString "count", some (.ref P.tC)), (Str.ofString "self", some (.ref x)), (Str.ofString "tabsize", some (.int ts tt))] m')
    rfl (by assumption) (rangeSmall1 (by omega) (by omega) (by omega) (by omega)) (rangeSize1 _ _) F0 N0 Calm.nil ⟨_, _, rfl, by walk_at "same map"⟩ ?_ ?_
  · rintro i t₁ m₁ news₁ h tk₁ own hi ⟨til, m', rfl, rfl⟩ hcalm hown F1 N1
    have hq : 0 ≤ Int.fdiv (ts + (i : Int)) ts ∧ Int.fdiv (ts + (i : Int)) ts ≤ 100000 := by
      rw [Int.fdiv_eq_ediv_of_nonneg _ (by omega)]
      have h1 : (ts + (i : Int)) / ts ≤ ts + i := Int.ediv_le_self _ (by omega)
      have h2 : 0 ≤ (ts + (i : Int)) / ts := Int.ediv_nonneg (by omega) (by omega)
      omega
    simp only [List.nil_append] at N1
    rw [ilsum_succ]
    refine hideQ fun Tq hTq => ?_
    walk_at "go"
    rw [hTq]
    exact TurnQ.next [] (by assumption) (by assumption) (fun p hp => hp) (fun _ hp => nomatch hp) Calm.nil ⟨_, _, rfl, by walk_at "same map"⟩
  · rintro m₁ news₁ h tk₁ ⟨til, m', rfl, rfl⟩ hcalm F1 N1
    walk_at "go"
    dsimp only
    exact fin rfl (by assumption) (by assumption) ⟨_, rfl⟩
-- two maps of names are one: the names by computation, the others fall through
-- objects that stood before the call
theorem prep6 : True := by
  k_with_none
  k_with "it" => (simp only [decide_eq_true_eq, beq_iff_eq, bne_iff_ne, ne_eq]; omega)
  k_with "ite" => first | refine ite_neg (by walk_at "it") ?_ | refine ite_pos (by walk_at "it") ?_
  k_with "st" => first | walk1 | (dsimp only; walk1)
  k_with "go" => repeat' ((fail_if_success (with_reducible show wpAny _ _ (pyIter _) _ _ _)); (walk_at "st"))
  k_with "for" => walk_at "real0"
  k_with "exec For Name Attribute cons nil" => (walk_at "for")
  k_with "exec For Name Call cons nil" => (walk_at "for")
  k_with "exec For Name Constant cons nil" => (walk_at "for")
  k_with "calm" => (repeat' (first | exact Calm.nil | refine Calm.cons (by intro vs h; cases h) ?_ | assumption))
  k_with "sub" => (intro p hp; (simp only [List.mem_cons, List.mem_append, List.not_mem_nil, or_false, false_or] at hp ⊢); first | assumption | grind)
  k_with "same map" => exact ov_eq (by (repeat' (first | exact List.forall_mem_nil _ | refine List.forall_mem_cons.mpr ⟨rfl, ?_⟩))) (fun _ _ => rfl)
  k_with "call builtin:len" => refine lenTup (by assumption) (by assumption) (by assumption) (by omega) ?_
  k_with "subscriptTail Name Name ref int" => (refine itemTup (by assumption) (by assumption) (by assumption) (by omega) (by omega) (by omega) ?_; intro _)
  k_with "execs cons Assign cons" => refine wpAny_execs_cons ?_
  k_with "eval ListComp" => ((rename Fr _ _ _ _ => lF'); (with_unfolding_all refine' compEval lF' ?k1 ?k2 ?k3 ?k4 ?k5 ?_; (case k1 => exact rfl); (case k2 => decide); (case k3 => exact rfl); (case k4 => decide); (case k5 => exact rfl); k_whole))
  w_top off
  trivial
theorem WsH.fr {h₀ h : Heap} {L : Addr} {m : Str → Option Value} {x : Addr} {σ : Wst} (F : Fr h₀ L h m) (W : WsH h₀ x σ) : WsH h x σ := W.mono F.keep
theorem intsReads {h : Heap} {vs : List Value} {ns : List Int} (hi : IntsAre vs ns) : ReadsAll h vs (ns.map .int) [] := hi.reads h
theorem normReads {h : Heap} {tN tC : Addr} {vs : List Value} {kN kC : Nat} {b : Int} {tb : Tok} {ns : List Int} (e3 : h.get? tN = some { cls := .type "tuple", data := .seq [.ref tC, .int b tb].toArray kN }) (e4 : h.get? tC = some { cls := .type "tuple", data := .seq vs.toArray kC }) (hi : IntsAre vs ns) :
    ∃ as, Reads h (.ref tN) (.tuple [.tuple (ns.map .int), .int b]) as :=
  ⟨_, reads_tuple_at e3 rfl rfl (ReadsAll.cons (reads_tuple_at e4 rfl rfl (hi.reads h)) (ReadsAll.cons (.int _ _) .nil))⟩
theorem normShaped (ns : List Int) (b : Int) : SeqAt.shaped (.tuple [.tuple (ns.map .int), .int b]) = true := by
  simp [SeqAt.shaped, PyData.canLay0, PyData.canLayAll0, PyData.depth, PyData.depthAll, ke_canLayAll0, ke_depthAll]
theorem normEqv (ns ms : List Int) (b c : Int) : PyData.eqv (.tuple [.tuple (ns.map .int), .int b]) (.tuple [.tuple (ms.map .int), .int c]) = decide (ns = ms ∧ b = c) := by
  simp only [PyData.eqv, PyData.eqvAll, ked_eqvAll, Bool.and_true]
  by_cases h1 : ns = ms <;> by_cases h2 : b = c <;> simp [h1, h2]
theorem prep7 : True := by
  k_with_none
  k_with "it" => (simp only [decide_eq_true_eq, beq_iff_eq, bne_iff_ne, ne_eq]; omega)
  k_with "ite" => first | refine ite_neg (by walk_at "it") ?_ | refine ite_pos (by walk_at "it") ?_
  k_with "st" => first | walk1 | (dsimp only; walk1)
  k_with "go" => repeat' ((fail_if_success (with_reducible show wpAny _ _ (pyIter _) _ _ _)); (walk_at "st"))
  k_with "for" => walk_at "real0"
  k_with "exec For Name Attribute cons nil" => (walk_at "for")
  k_with "exec For Name Call cons nil" => (walk_at "for")
  k_with "exec For Name Constant cons nil" => (walk_at "for")
  k_with "calm" => (repeat' (first | exact Calm.nil | refine Calm.cons (by intro vs h; cases h) ?_ | assumption))
  k_with "sub" => (intro p hp; (simp only [List.mem_cons, List.mem_append, List.not_mem_nil, or_false, false_or] at hp ⊢); first | assumption | grind)
  k_with "same map" => exact ov_eq (by (repeat' (first | exact List.forall_mem_nil _ | refine List.forall_mem_cons.mpr ⟨rfl, ?_⟩))) (fun _ _ => rfl)
  k_with "call builtin:len" => refine lenTup (by assumption) (by assumption) (by assumption) (by omega) ?_
  k_with "subscriptTail Name Name ref int" => (refine itemTup (by assumption) (by assumption) (by assumption) (by omega) (by omega) (by omega) ?_; intro _)
  k_with "execs cons Assign cons" => refine wpAny_execs_cons ?_
  k_with "eval ListComp" => ((rename Fr _ _ _ _ => lF'); (with_unfolding_all refine' compEval lF' ?k1 ?k2 ?k3 ?k4 ?k5 ?_; (case k1 => exact rfl); (case k2 => decide); (case k3 => exact rfl); (case k4 => decide); (case k5 => exact rfl); k_whole))
  k_with "o" => first | omega | (simp only [Around.deeper]; omega)
  k_with "g" => exact Gd.fr (by assumption) (by assumption)
  k_with "wf" => exact WsH.fr (by assumption) (by assumption)
  k_with "call ref" => (refine Gives.useT (longest (by walk_at "wf") (by walk_at "g") (by walk_at "o") (by omega)) (by k_asm) (by k_asm) ?_; intro _ _ _ _ _)
  k_with "call ref" => (refine Gives.useT (level (by walk_at "wf") (by walk_at "g") (by walk_at "o") (by omega) (by omega) (by omega)) (by k_asm) (by k_asm) ?_; intro _ _ _ _ _)
  w_top off
  trivial
theorem equalC {w : World} {d u : Nat} {fr : Option (List Env)} {g : Option (List Code)} {s : Shared} {x y : Addr} {σ τ : Wst} (W : WsH s.heap x σ) (V : WsH s.heap y τ) (G : Gd w s.heap) (hroom : d < 890) (hu : u < 9000) :
    Gives w ⟨none, d, fr, g, u⟩ (.ref 52) [.ref x, .ref y] s (fun v _ => v = .bool (decide (σ.cs = τ.cs ∧ (σ.b : Int) = τ.b))) := by
  obtain ⟨P, e1, e2, e3, e4, hints⟩ := W
  obtain ⟨P', f1, f2, f3, f4, hints'⟩ := V
  refine enter [(Str.ofString "self", .ref x), (Str.ofString "other", .ref y)] G (by k_is) (by k_is) (by simp only [recursionLimit]; omega) (BindsTo.of_eq rfl) (locs rfl) ?_ (by decide)
  intro L mg mb h₁ tk hL F N X mean T
  obtain ⟨as1, R1⟩ := normReads e3 e4 hints
  obtain ⟨as2, R2⟩ := normReads f3 f4 hints'
  walk_at "go"
  refine fin rfl (by assumption) (by assumption) ?_
  by_cases q1 : σ.cs = τ.cs <;> by_cases q2 : (σ.b : Int) = τ.b <;> simp [q1, q2]
def mx (σ : Wst) : Int := max ((σ.cs.length : Int) - 1) σ.b
/-- the tab sizes that are looked at: 1 up to this -/
def reach (σ τ : Wst) : Int := max (mx σ) (mx τ) + 1
abbrev Row := Int × Int × Int
def rowD (r : Row) : Dat := .tuple [.int r.1, .int r.2.1, .int r.2.2]
def rowsD (l : List Row) : Dat := .list (l.map rowD)
def rowAt (σ τ : Wst) (i : Nat) : Row := (1 + (i : Int), lvl σ (1 + (i : Int)), lvl τ (1 + (i : Int)))
def table (σ τ : Wst) (k : Nat) : List Row := (List.range k).map (rowAt σ τ)
theorem table_succ (σ τ : Wst) (k : Nat) : table σ τ (k + 1) = table σ τ k ++ [rowAt σ τ k] := by simp [table, List.range_succ]
def unlike (l : List Row) : List Row := l.filter fun r => decide (r.2.1 ≠ r.2.2)
def above (l : List Row) : List Row := l.filter fun r => decide (r.2.1 ≥ r.2.2)
theorem mx_bounds {σ : Wst} (h1 : σ.cs.length ≤ 100000) (h2 : σ.b ≤ 100000) : 0 ≤ mx σ ∧ mx σ ≤ 100000 := by
  unfold mx; omega
theorem reach_n {σ τ : Wst} {N : Nat} (b1 : σ.cs.length ≤ N) (b2 : σ.b ≤ N) (b3 : τ.cs.length ≤ N) (b4 : τ.b ≤ N) : 1 ≤ reach σ τ ∧ reach σ τ ≤ N + 1 := by unfold reach mx; omega
theorem reach_b {σ τ : Wst} (b1 : σ.cs.length ≤ 90000) (b2 : σ.b ≤ 90000) (b3 : τ.cs.length ≤ 90000) (b4 : τ.b ≤ 90000) : 1 ≤ reach σ τ ∧ reach σ τ ≤ 100000 :=
  ⟨(reach_n b1 b2 b3 b4).1, Int.le_trans (reach_n b1 b2 b3 b4).2 (by decide)⟩
theorem unlike_pos {σ τ : Wst} {i : Nat} {l : List Row} (h : lvl σ (1 + (i : Int)) ≠ lvl τ (1 + (i : Int))) : unlike (l ++ [rowAt σ τ i]) = unlike l ++ [rowAt σ τ i] := by
  simp [unlike, List.filter_append, rowAt, h]
theorem unlike_neg {σ τ : Wst} {i : Nat} {l : List Row} (h : lvl σ (1 + (i : Int)) = lvl τ (1 + (i : Int))) : unlike (l ++ [rowAt σ τ i]) = unlike l := by
  simp [unlike, List.filter_append, rowAt, h]
theorem above_pos {σ τ : Wst} {i : Nat} {l : List Row} (h : lvl τ (1 + (i : Int)) ≤ lvl σ (1 + (i : Int))) : above (l ++ [rowAt σ τ i]) = above l ++ [rowAt σ τ i] := by
  simp [above, List.filter_append, rowAt, h]
theorem above_neg {σ τ : Wst} {i : Nat} {l : List Row} (h : ¬ lvl τ (1 + (i : Int)) ≤ lvl σ (1 + (i : Int))) : above (l ++ [rowAt σ τ i]) = above l := by
  have h' : lvl σ (1 + (i : Int)) < lvl τ (1 + (i : Int)) := by omega
  simp [above, List.filter_append, rowAt, h']
theorem TurnQ.push {h₀ : Heap} {L : Addr} {own : List (Addr × Obj)} {Jn : (Str → Option Value) → List (Addr × Obj) → Prop} {s : Shared} {Q : Flow → Shared → Prop} {h' : Heap} {tk : Nat} {m₂ : Str → Option Value} {T D : Addr} {oT : Obj} {us : List Value} {k : Nat} {led : List (Addr × Obj)}
    (N : News h₀ L h' ((T, oT) :: (D, W.listOf (us.toArray.push (Value.ref T)) (k + 1)) :: (led ++ own))) (F : Fr h₀ L h' m₂) (hc : Calm ((D, W.listOf us.toArray k) :: led)) (hT : ∀ vs, oT.data ≠ .fields vs)
    (hj : Jn m₂ ((D, W.listOf (us ++ [Value.ref T]).toArray (k + 1)) :: (T, oT) :: led)) : TurnQ h₀ L own Jn s Q .next { s with heap := h', toks := tk } := by
  refine TurnQ.next _ F N (fun p hp => List.mem_cons_of_mem _ (List.mem_cons_of_mem _ (List.mem_append_right _ hp))) (fun p hp => ?_) (Calm.cons (by intro vs h; cases h) (Calm.cons hT fun q hq => hc q (List.mem_cons_of_mem _ hq))) hj
  have e : us.toArray.push (Value.ref T) = (us ++ [Value.ref T]).toArray := by simp
  rw [e]
  rcases List.mem_cons.mp hp with rfl | hp
  · exact List.mem_cons_of_mem _ List.mem_cons_self
  · rcases List.mem_cons.mp hp with rfl | hp
    · exact List.mem_cons_self
    · exact List.mem_cons_of_mem _ (List.mem_cons_of_mem _ (List.mem_append_left _ hp))
theorem witness {w : World} {d u : Nat} {fr : Option (List Env)} {g : Option (List Code)} {s : Shared} {x y : Addr} {σ τ : Wst} (W : WsH s.heap x σ) (V : WsH s.heap y τ) (G : Gd w s.heap) (hroom : d < 880) (hu : u < 9000)
    (b1 : σ.cs.length ≤ 90000) (b2 : σ.b ≤ 90000) (b3 : τ.cs.length ≤ 90000) (b4 : τ.b ≤ 90000) :
    Gives w ⟨none, d, fr, g, u⟩ (.ref 59) [.ref x, .ref y] s (fun v led => DatIn led v (rowsD (unlike (table σ τ (reach σ τ).toNat))) ∧ Calm led) := by
  have hm1 := mx_bounds (σ := σ) (by omega) (by omega)
  have hm2 := mx_bounds (σ := τ) (by omega) (by omega)
  have W' := W
  have V' := V
  obtain ⟨P, e1, e2, e3, e4, hints⟩ := W
  obtain ⟨P', f1, f2, f3, f4, hints'⟩ := V
  refine enter [(Str.ofString "self", .ref x), (Str.ofString "other", .ref y)] G (by k_is) (by k_is) (by simp only [recursionLimit]; omega) (BindsTo.of_eq rfl) (locs rfl) ?_ (by decide)
  intro L mg mb h₁ tk hL F N X mean T
  walk_at "go"
  rename IsRange _ _ _ _ _ _ _ _ => R0
  rename Fr _ _ _ _ => F0
  rename News _ _ _ _ => N0
  simp only [ite_max] at R0 F0
  have hr := reach_b b1 b2 b3 b4
  change IsRange _ _ 1 (reach σ τ + 1) 1 _ _ _ at R0
  refine iterRange (n := (reach σ τ).toNat) (fun i m news => ∃ D us k led tn m', news = (D, W.listOf us.toArray k) :: led ∧ DatAll led us ((unlike (table σ τ i)).map rowD) ∧ us.length ≤ i ∧ (∀ p ∈ led, p.1 ≠ D) ∧
      m = ov [(Str.ofString "a", some (.ref D)), (Str.ofString "n", some (.int (reach σ τ) tn)), (Str.ofString "self", some (.ref x)), (Str.ofString "other", some (.ref y))] m')
    rfl R0 (rangeSmall1 (by omega) (by omega) (by omega) (by omega)) ((rangeSize1 _ _).trans (by rw [show reach σ τ + 1 - 1 = reach σ τ by omega])) F0 N0 (by walk_at "calm") ⟨_, [], _, [], _, _, rfl, .nil, Nat.le_refl _, (fun _ hp => nomatch hp), by walk_at "same map"⟩ ?_ ?_
  · rintro i t₁ m₁ news₁ h tk₁ own hi ⟨D, us, k, led, tn, m', rfl, hdat, hul, hD, rfl⟩ hcalm hown F1 N1
    simp only [List.cons_append] at N1
    have hD2 : ∀ p ∈ led ++ own, p.1 ≠ D := fun p hp => (List.mem_append.mp hp).elim (hD p) fun q => hown p q _ List.mem_cons_self
    rw [table_succ]
    refine hideQ fun Tq hTq => ?_
    walk_at "go"
    · rename News _ _ _ _ => N2
      rename lvl _ _ ≠ lvl _ _ => hne
      rw [hTq, unlike_pos hne, List.map_append]
      refine TurnQ.push N2 (by assumption) hcalm (by intro vs h; cases h) ⟨_, _, _, _, _, _, rfl, (hdat.mono (fun _ h => List.mem_cons_of_mem _ h)).append (.one (.tuple List.mem_cons_self (.cons (.int _ _) (.cons (.int _ _) (.cons (.int _ _) .nil))))), by simp; omega, List.forall_mem_cons.mpr ⟨?_, hD⟩, by walk_at "same map"⟩
      refine neN ?_
      dsimp only
      omega
    · rename lvl _ _ = lvl _ _ => hne
      rw [hTq, unlike_neg hne]
      exact TurnQ.next ((D, W.listOf us.toArray k) :: led) (by assumption) (by assumption) (by walk_at "sub") (by walk_at "sub") hcalm ⟨D, us, k, led, _, _, rfl, hdat, by omega, hD, by walk_at "same map"⟩
  · rintro m₁ news₁ h tk₁ ⟨D, us, k, led, tn, m', rfl, hdat, hul, hD, rfl⟩ hcalm F1 N1
    walk_at "go"
    dsimp only
    exact fin rfl F1 N1 ⟨.list List.mem_cons_self (hdat.mono (fun _ h => List.mem_cons_of_mem _ h)), hcalm⟩
theorem witnessL {w : World} {d u : Nat} {fr : Option (List Env)} {g : Option (List Code)} {s : Shared} {x y : Addr} {σ τ : Wst} (W : WsH s.heap x σ) (V : WsH s.heap y τ) (G : Gd w s.heap) (hroom : d < 880) (hu : u < 9000)
    (b1 : σ.cs.length ≤ 90000) (b2 : σ.b ≤ 90000) (b3 : τ.cs.length ≤ 90000) (b4 : τ.b ≤ 90000) :
    Gives w ⟨none, d, fr, g, u⟩ (.ref 73) [.ref x, .ref y] s (fun v led => DatIn led v (rowsD (above (table σ τ (reach σ τ).toNat))) ∧ Calm led) := by
  have hm1 := mx_bounds (σ := σ) (by omega) (by omega)
  have hm2 := mx_bounds (σ := τ) (by omega) (by omega)
  have W' := W
  have V' := V
  obtain ⟨P, e1, e2, e3, e4, hints⟩ := W
  obtain ⟨P', f1, f2, f3, f4, hints'⟩ := V
  refine enter [(Str.ofString "self", .ref x), (Str.ofString "other", .ref y)] G (by k_is) (by k_is) (by simp only [recursionLimit]; omega) (BindsTo.of_eq rfl) (locs rfl) ?_ (by decide)
  intro L mg mb h₁ tk hL F N X mean T
  walk_at "go"
  rename IsRange _ _ _ _ _ _ _ _ => R0
  rename Fr _ _ _ _ => F0
  rename News _ _ _ _ => N0
  simp only [ite_max] at R0 F0
  have hr := reach_b b1 b2 b3 b4
  change IsRange _ _ 1 (reach σ τ + 1) 1 _ _ _ at R0
  refine iterRange (n := (reach σ τ).toNat) (fun i m news => ∃ D us k led tn m', news = (D, W.listOf us.toArray k) :: led ∧ DatAll led us ((above (table σ τ i)).map rowD) ∧ us.length ≤ i ∧ (∀ p ∈ led, p.1 ≠ D) ∧
      m = ov [(Str.ofString "a", some (.ref D)), (Str.ofString "n", some (.int (reach σ τ) tn)), (Str.ofString "self", some (.ref x)), (Str.ofString "other", some (.ref y))] m')
    rfl R0 (rangeSmall1 (by omega) (by omega) (by omega) (by omega)) ((rangeSize1 _ _).trans (by rw [show reach σ τ + 1 - 1 = reach σ τ by omega])) F0 N0 (by walk_at "calm") ⟨_, [], _, [], _, _, rfl, .nil, Nat.le_refl _, (fun _ hp => nomatch hp), by walk_at "same map"⟩ ?_ ?_
  · rintro i t₁ m₁ news₁ h tk₁ own hi ⟨D, us, k, led, tn, m', rfl, hdat, hul, hD, rfl⟩ hcalm hown F1 N1
    simp only [List.cons_append] at N1
    have hD2 : ∀ p ∈ led ++ own, p.1 ≠ D := fun p hp => (List.mem_append.mp hp).elim (hD p) fun q => hown p q _ List.mem_cons_self
    rw [table_succ]
    refine hideQ fun Tq hTq => ?_
    walk_at "go"
    · rename News _ _ _ _ => N2
      rename lvl _ _ ≤ lvl _ _ => hne
      rw [hTq, above_pos hne, List.map_append]
      refine TurnQ.push N2 (by assumption) hcalm (by intro vs h; cases h) ⟨_, _, _, _, _, _, rfl, (hdat.mono (fun _ h => List.mem_cons_of_mem _ h)).append (.one (.tuple List.mem_cons_self (.cons (.int _ _) (.cons (.int _ _) (.cons (.int _ _) .nil))))), by simp; omega, List.forall_mem_cons.mpr ⟨?_, hD⟩, by walk_at "same map"⟩
      refine neN ?_
      dsimp only
      omega
    · rename ¬ lvl _ _ ≤ lvl _ _ => hne
      rw [hTq, above_neg hne]
      exact TurnQ.next ((D, W.listOf us.toArray k) :: led) (by assumption) (by assumption) (by walk_at "sub") (by walk_at "sub") hcalm ⟨D, us, k, led, _, _, rfl, hdat, by omega, hD, by walk_at "same map"⟩
  · rintro m₁ news₁ h tk₁ ⟨D, us, k, led, tn, m', rfl, hdat, hul, hD, rfl⟩ hcalm F1 N1
    walk_at "go"
    dsimp only
    exact fin rfl F1 N1 ⟨.list List.mem_cons_self (hdat.mono (fun _ h => List.mem_cons_of_mem _ h)), hcalm⟩
-- two maps of names are one: the names by computation, the others fall through
-- objects that stood before the call
theorem prep8 : True := by
  k_with_none
  k_with "it" => (simp only [decide_eq_true_eq, beq_iff_eq, bne_iff_ne, ne_eq]; omega)
  k_with "ite" => first | refine ite_neg (by walk_at "it") ?_ | refine ite_pos (by walk_at "it") ?_
  k_with "st" => first | walk1 | (dsimp only; walk1)
  k_with "go" => repeat' ((fail_if_success (with_reducible show wpAny _ _ (pyIter _) _ _ _)); (walk_at "st"))
  k_with "for" => walk_at "real0"
  k_with "exec For Name Attribute cons nil" => (walk_at "for")
  k_with "exec For Name Call cons nil" => (walk_at "for")
  k_with "exec For Name Constant cons nil" => (walk_at "for")
  k_with "calm" => (repeat' (first | exact Calm.nil | refine Calm.cons (by intro vs h; cases h) ?_ | assumption))
  k_with "sub" => (intro p hp; (simp only [List.mem_cons, List.mem_append, List.not_mem_nil, or_false, false_or] at hp ⊢); first | assumption | grind)
  k_with "same map" => exact ov_eq (by (repeat' (first | exact List.forall_mem_nil _ | refine List.forall_mem_cons.mpr ⟨rfl, ?_⟩))) (fun _ _ => rfl)
  k_with "call builtin:len" => refine lenTup (by assumption) (by assumption) (by assumption) (by omega) ?_
  k_with "subscriptTail Name Name ref int" => (refine itemTup (by assumption) (by assumption) (by assumption) (by omega) (by omega) (by omega) ?_; intro _)
  k_with "execs cons Assign cons" => refine wpAny_execs_cons ?_
  k_with "eval ListComp" => ((rename Fr _ _ _ _ => lF'); (with_unfolding_all refine' compEval lF' ?k1 ?k2 ?k3 ?k4 ?k5 ?_; (case k1 => exact rfl); (case k2 => decide); (case k3 => exact rfl); (case k4 => decide); (case k5 => exact rfl); k_whole))
  k_with "o" => first | omega | (simp only [Around.deeper]; omega)
  k_with "g" => exact Gd.fr (by assumption) (by assumption)
  k_with "wf" => exact WsH.fr (by assumption) (by assumption)
  k_with "call ref" => (refine Gives.useT (longest (by walk_at "wf") (by walk_at "g") (by walk_at "o") (by omega)) (by k_asm) (by k_asm) ?_; intro _ _ _ _ _)
  k_with "call ref" => (refine Gives.useT (level (by walk_at "wf") (by walk_at "g") (by walk_at "o") (by omega) (by omega) (by omega)) (by k_asm) (by k_asm) ?_; intro _ _ _ _ _)
  k_with "goA" => repeat' ((fail_if_success (with_reducible show wpAny _ _ (execs (Stmt.Assign _ _ _ :: _) _) _ _ _)); (walk_at "st"))
  w_top off
  trivial
def lessV (σ τ : Wst) : Bool :=
  if (τ.n : Int) ≤ σ.n then false else if ((σ.cs.length : Int) ≤ 1 ∧ (τ.cs.length : Int) ≤ 1) then decide ((σ.nt : Int) ≤ τ.nt)
  else decide (∀ j : Nat, j < (reach σ τ - 1).toNat → lvl σ (2 + (j : Int)) < lvl τ (2 + (j : Int)))
theorem useFn {a : Addr} {w : World} {name qual : Str} {params : Arguments} {body : List Stmt} {scope : Scope} {dV kV doc pm cdv ct oc : Value} {an od : Option Addr} {osl : Array (Option Value)} {P : Prop}
    (ho : (hd.heap_39 w.params).lookup a = some ⟨oc, od, .func (fnOf name qual params body scope dV kV doc pm an cdv ct), osl⟩)
    (h : (hd.heap_39 w.params).lookup a = some ⟨oc, od, .func (fnOf name qual params body scope dV kV doc pm an cdv ct), osl⟩ → P) : P := h ho
theorem Fr.over {h₀ h : Heap} {L : Addr} {m : Str → Option Value} (F : Fr h₀ L h m) {ps : List (Str × Option Value)} (hp : ∀ p ∈ ps, m p.1 = p.2) : Fr h₀ L h (ov ps m) := by
  rw [← ov_eq (m := m) hp fun _ _ => rfl]; exact F
theorem lessTail {w : World} {d u : Nat} {fr : Option (List Env)} {g : Option (List Code)} {s₀ s : Shared} {L x y : Addr} {σ τ : Wst} {m₀ : Str → Option Value}
    {name qual : Str} {params : Arguments} {body : List Stmt} {scope : Scope} {dV kV doc pm cdv ct oc : Value} {an od : Option Addr} {osl : Array (Option Value)}
    (ho : (hd.heap_39 w.params).lookup 66 = some ⟨oc, od, .func (fnOf name qual params body scope dV kV doc pm an cdv ct), osl⟩)
    (W : WsH s₀.heap x σ) (V : WsH s₀.heap y τ) (G : Gd w s₀.heap) (hroom : d < 880) (hu : u < 9000)
    (b1 : σ.cs.length ≤ 90000) (b2 : σ.b ≤ 90000) (b3 : τ.cs.length ≤ 90000) (b4 : τ.b ≤ 90000) (hs : ∃ h tk, s = { s₀ with heap := h, toks := tk })
    (F : Fr s₀.heap L s.heap (ov [(Str.ofString "self", some (.ref x)), (Str.ofString "other", some (.ref y))] m₀)) (N : News s₀.heap L s.heap [])
    (hl : lessV σ τ = decide (∀ j : Nat, j < (reach σ τ - 1).toNat → lvl σ (2 + (j : Int)) < lvl τ (2 + (j : Int)))) :
    wpAny (model PG w) ((⟨none, d, fr, g, u⟩ : Around).deeper (envOf qual scope L 66 cdv)) (execs (body.drop 2) (envOf qual scope L 66 cdv))
      (fun fl s' => Ends s₀ (fun v _ => v = .bool (lessV σ τ)) (match fl with | .ret v => v | _ => .none) s') (fun _ _ => False) s := by
  obtain ⟨h, tk, rfl⟩ := hs
  have e := ho.symm.trans (by k_is : (hd.heap_39 w.params).lookup 66 = some ⟨_, _, .func (fnOf _ _ _ _ _ _ _ _ _ _ _ _), _⟩)
  cases e
  clear ho
  obtain ⟨mean, mg, mb, T⟩ := G.T
  have X := G.X
  have W' := W
  have V' := V
  obtain ⟨P, e1, e2, e3, e4, hints⟩ := W
  obtain ⟨P', f1, f2, f3, f4, hints'⟩ := V
  walk_at "go"
  rename IsRange _ _ _ _ _ _ _ _ => R0
  rename Fr _ _ _ _ => F0
  rename News _ _ _ _ => N0
  simp only [ite_max] at R0 F0
  have hr := reach_b b1 b2 b3 b4
  change IsRange _ _ 2 (reach σ τ + 1) 1 _ _ _ at R0
  refine iterRange (n := (reach σ τ - 1).toNat) (fun i m news => ∃ tn m', news = [] ∧ (∀ j : Nat, j < i → lvl σ (2 + (j : Int)) < lvl τ (2 + (j : Int))) ∧
      m = ov [(Str.ofString "n", some (.int (reach σ τ) tn)), (Str.ofString "self", some (.ref x)), (Str.ofString "other", some (.ref y))] m')
    rfl R0 (rangeSmall1 (by omega) (by omega) (by omega) (by omega)) ((rangeSize1 _ _).trans (by rw [show reach σ τ + 1 - 2 = reach σ τ - 1 by omega])) F0 N0 (by walk_at "calm") ⟨_, _, rfl, (fun _ hp => nomatch hp), by walk_at "same map"⟩ ?_ ?_
  · rintro i t₁ m₁ news₁ h tk₁ own hi ⟨tn, m', rfl, hall, rfl⟩ hcalm hown F1 N1
    simp only [List.nil_append] at N1
    refine hideQ fun Tq hTq => ?_
    walk_at "go"
    · rw [hTq]
      dsimp only
      refine TurnQ.ret ?_
      refine fin rfl (by assumption) (by assumption) ?_
      rename lvl _ _ ≤ lvl _ _ => hne
      rw [hl, decide_eq_false]
      intro hq
      have := hq i hi
      omega
    · rename ¬ lvl _ _ ≤ lvl _ _ => hne
      rw [hTq]
      refine TurnQ.next [] (by assumption) (by assumption) (fun p hp => hp) (fun _ hp => nomatch hp) Calm.nil ⟨_, _, rfl, fun j hj => ?_, by walk_at "same map"⟩
      rcases Nat.lt_or_eq_of_le (Nat.le_of_lt_succ hj) with h | h
      · exact hall j h
      · subst h; omega
  · rintro m₁ news₁ h tk₁ ⟨tn, m', rfl, hall, rfl⟩ hcalm F1 N1
    walk_at "go"
    dsimp only
    refine fin rfl (by assumption) (by assumption) ?_
    rw [hl, decide_eq_true hall]
theorem lessC {w : World} {d u : Nat} {fr : Option (List Env)} {g : Option (List Code)} {s : Shared} {x y : Addr} {σ τ : Wst} (W : WsH s.heap x σ) (V : WsH s.heap y τ) (G : Gd w s.heap) (hroom : d < 880) (hu : u < 9000)
    (b1 : σ.cs.length ≤ 90000) (b2 : σ.b ≤ 90000) (b3 : τ.cs.length ≤ 90000) (b4 : τ.b ≤ 90000) :
    Gives w ⟨none, d, fr, g, u⟩ (.ref 66) [.ref x, .ref y] s (fun v _ => v = .bool (lessV σ τ)) := by
  have W' := W
  have V' := V
  obtain ⟨P, e1, e2, e3, e4, hints⟩ := W
  obtain ⟨P', f1, f2, f3, f4, hints'⟩ := V
  refine enter [(Str.ofString "self", .ref x), (Str.ofString "other", .ref y)] G (by k_is) (by k_is) (by simp only [recursionLimit]; omega) (BindsTo.of_eq rfl) (locs rfl) ?_ (by decide)
  intro L mg mb h₁ tk hL F N X mean T
  walk_at "goA"
  · dsimp only
    refine fin rfl (by assumption) (by assumption) ?_
    rw [lessV, if_pos (by assumption)]
  · dsimp only
    refine fin rfl (by assumption) (by assumption) ?_
    rw [lessV, if_neg (by assumption), if_pos ⟨by assumption, by assumption⟩]
  all_goals (
    refine useFn (a := 66) (w := w) (by k_is) (fun ho => ?_)
    exact lessTail ho W' V' G hroom hu b1 b2 b3 b4 ⟨_, _, rfl⟩ (Fr.over (by assumption) (by repeat' (first | exact List.forall_mem_nil _ | refine List.forall_mem_cons.mpr ⟨rfl, ?_⟩))) (by assumption) (by rw [lessV, if_neg (by assumption), if_neg (by omega)]))
-- two maps of names are one: the names by computation, the others fall through
-- objects that stood before the call
theorem prep9 : True := by
  k_with_none
  k_with "it" => (simp only [decide_eq_true_eq, beq_iff_eq, bne_iff_ne, ne_eq]; omega)
  k_with "ite" => first | refine ite_neg (by walk_at "it") ?_ | refine ite_pos (by walk_at "it") ?_
  k_with "st" => first | walk1 | (dsimp only; walk1)
  k_with "go" => repeat' ((fail_if_success (with_reducible show wpAny _ _ (pyIter _) _ _ _)); (walk_at "st"))
  k_with "for" => walk_at "real0"
  k_with "exec For Name Attribute cons nil" => (walk_at "for")
  k_with "exec For Name Call cons nil" => (walk_at "for")
  k_with "exec For Name Constant cons nil" => (walk_at "for")
  k_with "calm" => (repeat' (first | exact Calm.nil | refine Calm.cons (by intro vs h; cases h) ?_ | assumption))
  k_with "sub" => (intro p hp; (simp only [List.mem_cons, List.mem_append, List.not_mem_nil, or_false, false_or] at hp ⊢); first | assumption | grind)
  k_with "same map" => exact ov_eq (by (repeat' (first | exact List.forall_mem_nil _ | refine List.forall_mem_cons.mpr ⟨rfl, ?_⟩))) (fun _ _ => rfl)
  k_with "call builtin:len" => refine lenTup (by assumption) (by assumption) (by assumption) (by omega) ?_
  k_with "subscriptTail Name Name ref int" => (refine itemTup (by assumption) (by assumption) (by assumption) (by omega) (by omega) (by omega) ?_; intro _)
  k_with "execs cons Assign cons" => refine wpAny_execs_cons ?_
  k_with "eval ListComp" => ((rename Fr _ _ _ _ => lF'); (with_unfolding_all refine' compEval lF' ?k1 ?k2 ?k3 ?k4 ?k5 ?_; (case k1 => exact rfl); (case k2 => decide); (case k3 => exact rfl); (case k4 => decide); (case k5 => exact rfl); k_whole))
  k_with "o" => first | omega | (simp only [Around.deeper]; omega)
  k_with "g" => exact Gd.fr (by assumption) (by assumption)
  k_with "wf" => exact WsH.fr (by assumption) (by assumption)
  k_with "call ref" => (refine Gives.useT (longest (by walk_at "wf") (by walk_at "g") (by walk_at "o") (by omega)) (by k_asm) (by k_asm) ?_; intro _ _ _ _ _)
  k_with "call ref" => (refine Gives.useT (level (by walk_at "wf") (by walk_at "g") (by walk_at "o") (by omega) (by omega) (by omega)) (by k_asm) (by k_asm) ?_; intro _ _ _ _ _)
  w_top off
  trivial
/-- the signs that a word may bear -/
def Sign (c : Nat) : Prop := (64 ≤ c ∧ c ≤ 73) ∨ (97 ≤ c ∧ c ≤ 105)
def Word (x : Str) : Prop := ∀ c ∈ x.cps.toList, Sign c
def vals (x : Str) : List Nat := x.cps.toList.map (· % 32)
theorem Word.ascii {x : Str} (h : Word x) : ∀ c ∈ x.cps.toList, c < 128 := fun c hc => by have := h c hc; unfold Sign at this; omega
theorem idx_occ : ∀ c, c < 128 → (c = 64 ∨ (97 ≤ c ∧ c ≤ 105)) → Builtin.Str.occurrences (Str.ofString "@abcdefghi") ⟨#[c]⟩ 0 (Str.ofString "@abcdefghi").length 1 = [c % 32] := by decide +kernel
theorem lo1_sign : ∀ c, c < 128 → ((64 ≤ c ∧ c ≤ 73) ∨ (97 ≤ c ∧ c ≤ 105)) → (lo1 c = 64 ∨ (97 ≤ lo1 c ∧ lo1 c ≤ 105)) ∧ lo1 c % 32 = c % 32 ∧ lo1 c < 128 := by decide +kernel
def colStep (size : Int) (c : Int) (v : Nat) : Int := c + (v : Int) + size - Int.fmod (c + (v : Int)) size
def colOf (size : Int) (vs : List Nat) : Int := vs.foldl (colStep size) 0
theorem colOf_snoc (size : Int) (vs : List Nat) (v : Nat) : colOf size (vs ++ [v]) = colStep size (colOf size vs) v := by simp [colOf, List.foldl_append]
theorem prep10 : True := by
  k_with_none
  k_with "it" => (simp only [decide_eq_true_eq, beq_iff_eq, bne_iff_ne, ne_eq]; omega)
  k_with "ite" => first | refine ite_neg (by walk_at "it") ?_ | refine ite_pos (by walk_at "it") ?_
  k_with "st" => first | walk1 | (dsimp only; walk1)
  k_with "go" => repeat' ((fail_if_success (with_reducible show wpAny _ _ (pyIter _) _ _ _)); (walk_at "st"))
  k_with "for" => walk_at "real0"
  k_with "exec For Name Attribute cons nil" => (walk_at "for")
  k_with "exec For Name Call cons nil" => (walk_at "for")
  k_with "exec For Name Constant cons nil" => (walk_at "for")
  k_with "calm" => (repeat' (first | exact Calm.nil | refine Calm.cons (by intro vs h; cases h) ?_ | assumption))
  k_with "sub" => (intro p hp; (simp only [List.mem_cons, List.mem_append, List.not_mem_nil, or_false, false_or] at hp ⊢); first | assumption | grind)
  k_with "same map" => exact ov_eq (by (repeat' (first | exact List.forall_mem_nil _ | refine List.forall_mem_cons.mpr ⟨rfl, ?_⟩))) (fun _ _ => rfl)
  k_with "call builtin:len" => refine lenTup (by assumption) (by assumption) (by assumption) (by omega) ?_
  k_with "subscriptTail Name Name ref int" => (refine itemTup (by assumption) (by assumption) (by assumption) (by omega) (by omega) (by omega) ?_; intro _)
  k_with "execs cons Assign cons" => refine wpAny_execs_cons ?_
  k_with "eval ListComp" => ((rename Fr _ _ _ _ => lF'); (with_unfolding_all refine' compEval lF' ?k1 ?k2 ?k3 ?k4 ?k5 ?_; (case k1 => exact rfl); (case k2 => decide); (case k3 => exact rfl); (case k4 => decide); (case k5 => exact rfl); k_whole))
  k_with "o" => first | omega | (simp only [Around.deeper]; omega)
  k_with "g" => exact Gd.fr (by assumption) (by assumption)
  k_with "wf" => exact WsH.fr (by assumption) (by assumption)
  k_with "call ref" => (refine Gives.useT (longest (by walk_at "wf") (by walk_at "g") (by walk_at "o") (by omega)) (by k_asm) (by k_asm) ?_; intro _ _ _ _ _)
  k_with "call ref" => (refine Gives.useT (level (by walk_at "wf") (by walk_at "g") (by walk_at "o") (by omega) (by omega) (by omega)) (by k_asm) (by k_asm) ?_; intro _ _ _ _ _)
  k_with "call builtin:str.index" => refine SC.index (by assumption) ?_
  w_top off
  trivial
theorem column {w : World} {d u : Nat} {fr : Option (List Env)} {g : Option (List Code)} {s : Shared} {x : Str} {tx ts tt : Tok} {size tail : Int} (G : Gd w s.heap) (hroom : d < 880) (hx : Word x) (hl : x.length ≤ 10000) (h1 : 1 ≤ size) (h2 : size ≤ 10000) :
    Gives w ⟨none, d, fr, g, u⟩ (.ref 125) [.str x tx, .int size ts, .int tail tt] s (fun v _ => ∃ t, v = .int (colOf size (vals x) + tail) t) := by
  refine enter [(Str.ofString "word", .str x tx), (Str.ofString "size", .int size ts), (Str.ofString "tail", .int tail tt)] G (by k_is) (by k_is) (by simp only [recursionLimit]; omega) (BindsTo.of_eq rfl) (locs rfl) ?_ (by decide)
  intro L mg mb h₁ tk hL F N X mean T
  have hlow : Txt.lower x = ⟨x.cps.map lo1⟩ := lower_ascii hx.ascii
  walk_at "go"
  rename Fr _ _ _ _ => F0
  rename News _ _ _ _ => N0
  rw [hlow]
  refine iterStr (fun i m news => ∃ tc m', news = [] ∧ m = ov [(Str.ofString "column", some (.int (colOf size ((vals x).take i)) tc)), (Str.ofString "word", some (.str x tx)), (Str.ofString "size", some (.int size ts)), (Str.ofString "tail", some (.int tail tt))] m')
    rfl F0 N0 Calm.nil ⟨_, _, rfl, by walk_at "same map"⟩ ?_ ?_
  · rintro i c t₁ m₁ news₁ h tk₁ own hc ⟨tc, m', rfl, rfl⟩ hcalm hown F1 N1
    simp only [Array.toList_map, List.getElem?_map, Option.map_eq_some_iff] at hc
    obtain ⟨c₀, hc₀, rfl⟩ := hc
    have hsg := hx c₀ (List.mem_of_getElem? hc₀)
    have hl1 := lo1_sign c₀ (hx.ascii _ (List.mem_of_getElem? hc₀)) hsg
    have hocc := idx_occ (lo1 c₀) hl1.2.2 hl1.1
    rw [hl1.2.1] at hocc
    have hsn : (vals x).take (i + 1) = (vals x).take i ++ [c₀ % 32] := by
      rw [List.take_add_one]; simp [vals, hc₀]
    rw [hsn, colOf_snoc]
    simp only [List.nil_append] at N1
    refine hideQ fun Tq hTq => ?_
    walk_at "go"
    rw [hTq]
    exact TurnQ.next [] (by assumption) (by assumption) (fun p hp => hp) (fun _ hp => nomatch hp) Calm.nil ⟨_, _, rfl, by walk_at "same map"⟩
  · rintro m₁ news₁ h tk₁ ⟨tc, m', rfl, rfl⟩ hcalm F1 N1
    have hta : (vals x).take (⟨x.cps.map lo1⟩ : Str).cps.toList.length = vals x := List.take_of_length_le (by simp [vals])
    rw [hta] at F1
    walk_at "go"
    dsimp only
    exact fin rfl (by assumption) (by assumption) ⟨_, rfl⟩
theorem prep11 : True := by
  k_with_none
  k_with "it" => (simp only [decide_eq_true_eq, beq_iff_eq, bne_iff_ne, ne_eq]; omega)
  k_with "ite" => first | refine ite_neg (by walk_at "it") ?_ | refine ite_pos (by walk_at "it") ?_
  k_with "st" => first | walk1 | (dsimp only; walk1)
  k_with "go" => repeat' ((fail_if_success (with_reducible show wpAny _ _ (pyIter _) _ _ _)); (walk_at "st"))
  k_with "for" => walk_at "real0"
  k_with "exec For Name Attribute cons nil" => (walk_at "for")
  k_with "exec For Name Call cons nil" => (walk_at "for")
  k_with "exec For Name Constant cons nil" => (walk_at "for")
  k_with "calm" => (repeat' (first | exact Calm.nil | refine Calm.cons (by intro vs h; cases h) ?_ | assumption))
  k_with "sub" => (intro p hp; (simp only [List.mem_cons, List.mem_append, List.not_mem_nil, or_false, false_or] at hp ⊢); first | assumption | grind)
  k_with "same map" => exact ov_eq (by (repeat' (first | exact List.forall_mem_nil _ | refine List.forall_mem_cons.mpr ⟨rfl, ?_⟩))) (fun _ _ => rfl)
  k_with "call builtin:len" => refine lenTup (by assumption) (by assumption) (by assumption) (by omega) ?_
  k_with "subscriptTail Name Name ref int" => (refine itemTup (by assumption) (by assumption) (by assumption) (by omega) (by omega) (by omega) ?_; intro _)
  k_with "execs cons Assign cons" => refine wpAny_execs_cons ?_
  k_with "eval ListComp" => ((rename Fr _ _ _ _ => lF'); (with_unfolding_all refine' compEval lF' ?k1 ?k2 ?k3 ?k4 ?k5 ?_; (case k1 => exact rfl); (case k2 => decide); (case k3 => exact rfl); (case k4 => decide); (case k5 => exact rfl); k_whole))
  k_with "o" => first | omega | (simp only [Around.deeper]; omega)
  k_with "g" => exact Gd.fr (by assumption) (by assumption)
  k_with "wf" => exact WsH.fr (by assumption) (by assumption)
  k_with "call ref" => (refine Gives.useT (longest (by walk_at "wf") (by walk_at "g") (by walk_at "o") (by omega)) (by k_asm) (by k_asm) ?_; intro _ _ _ _ _)
  k_with "call ref" => (refine Gives.useT (level (by walk_at "wf") (by walk_at "g") (by walk_at "o") (by omega) (by omega) (by omega)) (by k_asm) (by k_asm) ?_; intro _ _ _ _ _)
  k_with "call builtin:str.index" => refine SC.index (by assumption) ?_
  k_with "call ref" => (refine Gives.useT (ctrl_str (by walk_at "g") (by walk_at "o")) (by k_asm) (by k_asm) ?_; intro _ _ _ _ _)
  w_top off
  trivial
theorem mulSp (k : Nat) : Txt.mul (Str.ofString " ") (k : Int) = ⟨(List.replicate k 32).toArray⟩ := by
  have e : Str.ofString " " = ⟨#[32]⟩ := by decide
  rw [e]
  unfold Txt.mul
  have fold : ∀ (n : Nat) (acc : Array Nat), (List.replicate n #[32]).foldl (· ++ ·) acc = acc ++ (List.replicate n 32).toArray := by
    intro n
    induction n with
    | zero => intro acc; simp
    | succ n ih => intro acc; rw [List.replicate_succ, List.foldl_cons, ih, List.replicate_succ]; exact Array.toList_inj.mp (by simp)
  split
  · have : k = 0 := by omega
    subst this; rfl
  · split
    · rename_i h1 h2
      have : k = 1 := by
        simp at h2
        rcases h2 with h2 | h2
        · omega
        · cases h2
      subst this; rfl
    · rw [fold]; simp
theorem joinEmpty (l : List Str) : Txt.join (Str.ofString "") l = ⟨((l.map (·.cps.toList)).flatten).toArray⟩ := by
  show Builtin.Str.glued (Str.ofString "") l = _
  rw [StrLaws.glued_eq_join]
  have e : Str.ofString "" = Str.empty := by decide
  rw [e]
  have key : ∀ l : List Str, (Str.join Str.empty l).cps.toList = (l.map (·.cps.toList)).flatten := by
    intro l
    induction l with
    | nil => rfl
    | cons a r ih =>
      cases r with
      | nil => simp [Str.join]
      | cons b r =>
        show (a ++ Str.empty ++ Str.join Str.empty (b :: r)).cps.toList = _
        rw [Str.cps_append, Str.cps_append, Array.toList_append, Array.toList_append, ih]
        simp [Str.empty]
  refine Str.ext' (Array.toList_inj.mp ?_)
  rw [key]
/-- the indent that a word makes: its blanks and tabs, and the tail's blanks -/
def blk (vs : List Nat) : List Nat := (vs.map fun v => List.replicate v 32 ++ [9]).flatten
def rawOf (vs : List Nat) (tail : Nat) : List Nat := blk vs ++ List.replicate tail 32
theorem rawOf_mem {vs : List Nat} {tail : Nat} : ∀ c ∈ rawOf vs tail, c = 32 ∨ c = 9 := by
  intro c hc
  simp only [rawOf, blk, List.mem_append, List.mem_flatten, List.mem_map, List.mem_replicate] at hc
  rcases hc with ⟨l, ⟨v, _, rfl⟩, h⟩ | h
  · simp only [List.mem_append, List.mem_replicate, List.mem_singleton] at h
    omega
  · omega
theorem blk_length : ∀ {vs : List Nat}, (∀ v ∈ vs, v < 32) → (blk vs).length ≤ 32 * vs.length
  | [], _ => by simp [blk]
  | v :: r, hv => by
    have h1 := hv v List.mem_cons_self
    have h2 := blk_length fun u hu => hv u (List.mem_cons_of_mem _ hu)
    have e : blk (v :: r) = (List.replicate v 32 ++ [9]) ++ blk r := by simp [blk]
    rw [e]
    simp only [List.length_append, List.length_replicate, List.length_cons, List.length_nil]
    omega
theorem vals_lt (x : Str) : ∀ v ∈ vals x, v < 32 := by
  intro v hv
  simp only [vals, List.mem_map] at hv
  obtain ⟨c, _, rfl⟩ := hv
  exact Nat.mod_lt _ (by decide)
theorem vals_length (x : Str) : (vals x).length = x.length := by simp [vals, Str.length]
theorem indent {w : World} {d u : Nat} {fr : Option (List Env)} {g : Option (List Code)} {s : Shared} {x : Str} {tx tt : Tok} {tail : Nat} (G : Gd w s.heap) (hroom : d < 880) (hl : x.length ≤ 2000) (h2 : tail ≤ 1000) :
    Gives w ⟨none, d, fr, g, u⟩ (.ref 118) [.str x tx, .int tail tt] s (fun v led => ∃ x', v = .ref x' ∧ WsAt (fun a o => (a, o) ∈ led) x' (wst (rawOf (vals x) tail)) ∧ Calm led) := by
  refine enter [(Str.ofString "word", .str x tx), (Str.ofString "tail", .int tail tt)] G (by k_is) (by k_is) (by simp only [recursionLimit]; omega) (BindsTo.of_eq rfl) (locs rfl) ?_ (by decide)
  intro L mg mb h₁ tk hL F N X mean T
  walk_at "go"
  refine compStr rfl (by assumption) (by assumption) (by rw [sizeLine_eq]; exact Nat.le_trans hl (by decide)) (fun g => ?_)
  refine compInd (fun i ys news => news = [] ∧ StrsAre ys ((x.cps.toList.take i).map fun c => ⟨(List.replicate (c % 32) 32 ++ [9]).toArray⟩)) ?_ ?_ _ _ _ _ (Nat.zero_add _) ⟨rfl, .nil⟩
  · rintro i ys news hi ⟨rfl, hys⟩ v I oI C oC D m₂ h tk₁ E' ⟨c, u, hc, rfl⟩ hN hm F1 N1 ho hne
    walk_at "go"
    have e : Txt.mul (Str.ofString " ") ((c % 32 : Nat) : Int) ++ Str.ofString "\t" = (⟨(List.replicate (c % 32) 32 ++ [9]).toArray⟩ : Str) := by
      rw [mulSp, show Str.ofString "\t" = ⟨#[9]⟩ by decide]
      exact Str.ext' (Array.toList_inj.mp (by rw [Str.cps_append]; simp))
    rw [e, List.take_add_one, show x.cps.toList[i]? = some c by simpa using hc]
    simp only [Option.toList_some, List.map_append, List.map_cons, List.map_nil]
    exact hys.append' (.cons _ _ .nil)
  · rintro ys news ⟨rfl, hys⟩ D h tk₁ F1 N1 ho
    rw [List.take_of_length_le (by simp)] at hys
    walk_at "go"
    refine join_listW (items := ys.toArray) (News.isList N1 (by k_mem)) (by simpa using hys) (by decide) ?_ ?_
    · have h1 := StrLaws.sumLen_le (B := 32) (x.cps.toList.map fun c => (⟨(List.replicate (c % 32) 32 ++ [9]).toArray⟩ : Str)) (by
        intro y hy
        obtain ⟨c, _, rfl⟩ := List.mem_map.mp hy
        have := Nat.mod_lt c (show 0 < 32 by decide)
        simp [Str.length]; omega)
      have h2 : (x.cps.toList.map fun c => (⟨(List.replicate (c % 32) 32 ++ [9]).toArray⟩ : Str)).length = x.length := by simp [Str.length]
      rw [h2] at h1 ⊢
      omega
    intro t' k'
    have hJe : Txt.join (Str.ofString "") (x.cps.toList.map fun c => (⟨(List.replicate (c % 32) 32 ++ [9]).toArray⟩ : Str)) = ⟨(blk (vals x)).toArray⟩ := by
      rw [joinEmpty]; simp [blk, vals, List.map_map, Function.comp_def]
    rw [hJe]
    obtain ⟨J, hJ⟩ : ∃ J : Str, J = ⟨(blk (vals x)).toArray⟩ := ⟨_, rfl⟩
    have hJl : J.length ≤ 320000 := by
      have := blk_length (vals_lt x)
      rw [vals_length] at this
      rw [hJ]; simp only [Str.length, List.size_toArray]
      omega
    rw [← hJ]
    walk_at "go"
    have e : J ++ Txt.mul (Str.ofString " ") (tail : Int) ++ Str.ofString "x \t" = (⟨(rawOf (vals x) tail ++ 120 :: [32, 9]).toArray⟩ : Str) := by
      rw [hJ, mulSp, show Str.ofString "x \t" = ⟨#[120, 32, 9]⟩ by decide]
      exact Str.ext' (Array.toList_inj.mp (by rw [Str.cps_append, Str.cps_append]; simp [rawOf]))
    rw [e]
    refine Gives.use (init_ws (Gd.fr G F1) (by simp only [Around.deeper]; omega) rawOf_mem ?_) F1 N1 ?_
    · have := blk_length (vals_lt x)
      rw [vals_length] at this
      simp only [rawOf, List.length_append, List.length_replicate]
      omega
    rintro h' tk' v' led ⟨x', rfl, W, C⟩ F' N' st fr'
    exact finSub led rfl F' N' (fun p hp => List.mem_append_left _ hp) ⟨x', rfl, W, C⟩
theorem prep12 : True := by
  k_with_none
  k_with "it" => (simp only [decide_eq_true_eq, beq_iff_eq, bne_iff_ne, ne_eq]; omega)
  k_with "ite" => first | refine ite_neg (by walk_at "it") ?_ | refine ite_pos (by walk_at "it") ?_
  k_with "st" => first | walk1 | (dsimp only; walk1)
  k_with "go" => repeat' ((fail_if_success (with_reducible show wpAny _ _ (pyIter _) _ _ _)); (walk_at "st"))
  k_with "for" => walk_at "real0"
  k_with "exec For Name Attribute cons nil" => (walk_at "for")
  k_with "exec For Name Call cons nil" => (walk_at "for")
  k_with "exec For Name Constant cons nil" => (walk_at "for")
  k_with "calm" => (repeat' (first | exact Calm.nil | refine Calm.cons (by intro vs h; cases h) ?_ | assumption))
  k_with "sub" => (intro p hp; (simp only [List.mem_cons, List.mem_append, List.not_mem_nil, or_false, false_or] at hp ⊢); first | assumption | grind)
  k_with "same map" => exact ov_eq (by (repeat' (first | exact List.forall_mem_nil _ | refine List.forall_mem_cons.mpr ⟨rfl, ?_⟩))) (fun _ _ => rfl)
  k_with "call builtin:len" => refine lenTup (by assumption) (by assumption) (by assumption) (by omega) ?_
  k_with "subscriptTail Name Name ref int" => (refine itemTup (by assumption) (by assumption) (by assumption) (by omega) (by omega) (by omega) ?_; intro _)
  k_with "execs cons Assign cons" => refine wpAny_execs_cons ?_
  k_with "eval ListComp" => ((rename Fr _ _ _ _ => lF'); (with_unfolding_all refine' compEval lF' ?k1 ?k2 ?k3 ?k4 ?k5 ?_; (case k1 => exact rfl); (case k2 => decide); (case k3 => exact rfl); (case k4 => decide); (case k5 => exact rfl); k_whole))
  k_with "o" => first | omega | (simp only [Around.deeper]; omega)
  k_with "g" => exact Gd.fr (by assumption) (by assumption)
  k_with "wf" => exact WsH.fr (by assumption) (by assumption)
  k_with "call ref" => (refine Gives.useT (longest (by walk_at "wf") (by walk_at "g") (by walk_at "o") (by omega)) (by k_asm) (by k_asm) ?_; intro _ _ _ _ _)
  k_with "call ref" => (refine Gives.useT (level (by walk_at "wf") (by walk_at "g") (by walk_at "o") (by omega) (by omega) (by omega)) (by k_asm) (by k_asm) ?_; intro _ _ _ _ _)
  k_with "call builtin:str.index" => refine SC.index (by assumption) ?_
  k_with "call ref" => (refine Gives.useT (ctrl_str (by walk_at "g") (by walk_at "o")) (by k_asm) (by k_asm) ?_; intro _ _ _ _ _)
  k_with "binaryOp FloorDiv int int" => refine floordiv_int (by omega) ?_ (Or.inl (PyProof.noPylong_small (by omega)))
  w_top off
  trivial
theorem item_sign0 : ∀ n, n < 20 → (64 ≤ (Txt.charAt (Str.ofString "@ABCDEFGHI@abcdefghi") ((n : Nat) : Int)).getD 0 ∧ (Txt.charAt (Str.ofString "@ABCDEFGHI@abcdefghi") ((n : Nat) : Int)).getD 0 ≤ 73) ∨
    (97 ≤ (Txt.charAt (Str.ofString "@ABCDEFGHI@abcdefghi") ((n : Nat) : Int)).getD 0 ∧ (Txt.charAt (Str.ofString "@ABCDEFGHI@abcdefghi") ((n : Nat) : Int)).getD 0 ≤ 105) := by decide +kernel
theorem item_sign {k : Int} (h0 : 0 ≤ k) (h1 : k < 20) : ∃ c, Txt.item (Str.ofString "@ABCDEFGHI@abcdefghi") k = ⟨#[c]⟩ ∧ Sign c := by
  obtain ⟨n, rfl⟩ := Int.eq_ofNat_of_zero_le h0
  exact ⟨_, rfl, item_sign0 n (by omega)⟩
theorem word {w : World} {d u : Nat} {fr : Option (List Env)} {g : Option (List Code)} {s : Shared} {x most : Int} {tx tm : Tok} (G : Gd w s.heap) (hroom : d < 880) (h1 : 0 ≤ x) (h2 : x ≤ 1000000000) (h3 : 0 ≤ most) (h4 : most ≤ 4) :
    Gives w ⟨none, d, fr, g, u⟩ (.ref 113) [.int x tx, .int most tm] s (fun v _ => ∃ W t, v = .str W t ∧ Word W ∧ (W.length : Int) ≤ most) := by
  refine enterC [(Str.ofString "x", .int x tx), (Str.ofString "most", .int most tm)] G (by k_is) (by k_is) (by simp only [recursionLimit]; omega) (BindsTo.of_eq rfl) rfl (by decide +kernel) ?_
  intro L mg mb h₁ tk cells hL F N Y X mean T
  k_cells Y
  walk_at "go"
  have hq : 0 ≤ Int.fmod x (most + 1) ∧ Int.fmod x (most + 1) ≤ most := by
    rw [Int.fmod_eq_emod_of_nonneg _ (by omega)]
    have := Int.emod_nonneg x (show most + 1 ≠ 0 by omega)
    have := Int.emod_lt_of_pos x (show 0 < most + 1 by omega)
    omega
  rename IsRange _ _ _ _ _ _ _ _ => R0
  rename Fr _ _ _ _ => F0
  rename News _ _ _ _ => N0
  refine compRange rfl F0 N0 R0 (rangeSmall1 (by omega) (by omega) (by omega) (by omega)) (rangeSize1 _ _) (by rw [sizeLine_eq]; omega) (fun g => ?_)
  refine compInd (fun i ys news => news = _ ∧ ∃ sl, StrsAre ys sl ∧ sl.length = i ∧ ∀ y ∈ sl, ∃ c, y = ⟨#[c]⟩ ∧ Sign c) ?_ ?_ _ _ _ _ (Nat.zero_add _) ⟨rfl, [], .nil, rfl, fun _ h => nomatch h⟩
  · rintro i ys news hi ⟨rfl, sl, hys, hsl, hsg⟩ v I oI C oC D m₂ h tk₁ E' ⟨u', rfl⟩ hN hm F1 N1 ho hne
    have hz : 0 < (most + 1) * 20 ^ ((0 : Int) + (i : Int)).toNat := Int.mul_pos (by omega) (Int.pow_pos (by decide))
    have hz2 : (most + 1) * 20 ^ ((0 : Int) + (i : Int)).toNat ≤ 40000 := by
      have hi4 := fourN (show i < 4 by omega)
      rw [show ((0 : Int) + (i : Int)).toNat = i by omega]
      rcases hi4 with e | e | e | e <;> subst e <;> simp <;> omega
    walk_at "go"
    have hk : 0 ≤ Int.fmod (Int.fdiv x ((most + 1) * 20 ^ ((0 : Int) + (i : Int)).toNat)) 20 ∧ Int.fmod (Int.fdiv x ((most + 1) * 20 ^ ((0 : Int) + (i : Int)).toNat)) 20 < 20 := ⟨fmod_lo _ (by decide), fmod_hi _ (by decide)⟩
    have hsn := item_sign hk.1 hk.2
    refine LCg.CompEnd.intro F1 N1 _ (by walk_at "sub") ho trivial ⟨rfl, sl ++ [_], hys.append' (.cons _ _ .nil), by simp [hsl], ?_⟩
    intro y hy
    rcases List.mem_append.mp hy with h | h
    · exact hsg y h
    · rw [List.mem_singleton.mp h]; exact hsn
  · rintro ys news ⟨rfl, sl, hys, hsl, hsg⟩ D h tk₁ F1 N1 ho
    walk_at "go"
    refine join_listW (items := ys.toArray) (News.isList N1 (by k_mem)) (by simpa using hys) (by decide) ?_ ?_
    · have h5 := StrLaws.sumLen_le (B := 1) sl (by
        intro y hy
        obtain ⟨c, rfl, _⟩ := hsg y hy
        simp [Str.length])
      omega
    intro t' k'
    rw [joinEmpty]
    refine fin rfl (by assumption) (by assumption) ⟨_, _, rfl, ?_, ?_⟩
    · intro c hc
      simp only [List.mem_flatten, List.mem_map] at hc
      obtain ⟨l, ⟨y, hy, rfl⟩, hc⟩ := hc
      obtain ⟨c', rfl, hc'⟩ := hsg y hy
      simp at hc
      exact hc ▸ hc'
    · have e : ∀ l : List Str, (∀ y ∈ l, ∃ c, y = (⟨#[c]⟩ : Str) ∧ Sign c) → ((l.map (·.cps.toList)).flatten).length = l.length := by
        intro l
        induction l with
        | nil => intro _; rfl
        | cons y r ih =>
          intro hl
          obtain ⟨c, rfl, _⟩ := hl y List.mem_cons_self
          have := ih fun z hz => hl z (List.mem_cons_of_mem _ hz)
          simp only [List.map_cons, List.flatten_cons, List.length_append, List.length_cons, this]
          simp
          omega
      simp only [Str.length, List.size_toArray, e sl hsg]
      omega
theorem Word.sliceBy {x : Str} (h : Word x) (l u : Option (Int × Tok)) (st : Int × Tok) : Word (Txt.sliceBy x l u st) := by
  unfold Txt.sliceBy
  split
  · exact h
  · intro c hc
    simp only [List.mem_filterMap] at hc
    obtain ⟨i, _, hi⟩ := hc
    exact h c (by simpa using Array.mem_of_getElem? hi)
theorem Word.slice {x : Str} (h : Word x) (l u : Option Int) : Word (Txt.slice x l u) ∧ (Txt.slice x l u).length ≤ x.length := by
  refine ⟨?_, Txt.slice_le x l u⟩
  unfold Txt.slice
  split
  · exact h
  · intro c hc
    simp only [List.mem_filterMap] at hc
    obtain ⟨i, _, hi⟩ := hc
    exact h c (by simpa using Array.mem_of_getElem? hi)
theorem up1_sign : ∀ c, c < 128 → ((64 ≤ c ∧ c ≤ 73) ∨ (97 ≤ c ∧ c ≤ 105)) → (64 ≤ up1 c ∧ up1 c ≤ 73) ∧ up1 c % 32 = c % 32 := by decide +kernel
theorem upper_word {x : Str} (h : Word x) : Word (Txt.upper x) ∧ (Txt.upper x).length = x.length := by
  rw [upper_ascii h.ascii]
  refine ⟨fun c hc => ?_, by simp [Str.length]⟩
  simp only [Array.toList_map, List.mem_map] at hc
  obtain ⟨c₀, h0, rfl⟩ := hc
  exact .inl (up1_sign c₀ (h.ascii _ h0) (h c₀ h0)).1
theorem upperA {prog : Program} {w : World} {A : Around} {E : Value → Shared → Prop} {s : Shared} {x : Str} {t : Tok} {Q : Value → Shared → Prop} (hx : Word x) (hl : x.length ≤ 5000)
    (h : ∀ V, Word V → V.length = x.length → ∀ t k, Q (.str V t) { s with toks := k }) : wpAny (model prog w) A (call (.builtin "str.upper") [.str x t]) Q E s := by
  have hu := upper_word hx
  refine SC.upper ?_ (h _ hu.1 hu.2 _ _)
  unfold Builtin.Str.tooLong
  rw [hu.2]
  simp only [sizeLine_eq]
  exact decide_eq_false (by omega)
theorem upperE {prog : Program} {w : World} {A : Around} {E : Value → Shared → Prop} {s : Shared} {x : Str} {t : Tok} {Q : Value → Shared → Prop} (hx : Word x) (hl : x.length ≤ 5000)
    (h : Q (.str (Txt.upper x) s.toks) { s with toks := s.toks + 1 }) : wpAny (model prog w) A (call (.builtin "str.upper") [.str x t]) Q E s := by
  have hu := upper_word hx
  refine SC.upper ?_ h
  unfold Builtin.Str.tooLong
  rw [hu.2]
  simp only [sizeLine_eq]
  exact decide_eq_false (by omega)
/-- how often a word has the v-th letter -/
def cntOf (x : Str) (v : Nat) : Int := ((vals x).count v : Nat)
abbrev SRow := Str × Int
def srowD (r : SRow) : Dat := .tuple [.str r.1, .int r.2]
def letters : List Nat := [9, 8, 7, 6, 5, 4, 3, 2, 1]
def due0 (A B : Str) : List SRow := if (B.length : Int) ≠ (A.length : Int) then [(Str.ofString "@", (B.length : Int) - (A.length : Int))] else []
def dueOf (A B : Str) (l : List Nat) : List SRow := l.filterMap fun v => if cntOf B v - cntOf A v ≠ 0 then some (⟨#[94, 64 + v]⟩, cntOf B v - cntOf A v) else none
def dueAll (A B : Str) : List SRow := due0 A B ++ dueOf A B letters
theorem dueOf_snoc (A B : Str) (l : List Nat) (v : Nat) : dueOf A B (l ++ [v]) = dueOf A B l ++ (if cntOf B v - cntOf A v ≠ 0 then [(⟨#[94, 64 + v]⟩, cntOf B v - cntOf A v)] else []) := by
  simp only [dueOf, List.filterMap_append]
  congr 1
  simp only [List.filterMap_cons, List.filterMap_nil]
  split <;> split <;> simp_all
theorem text_letters : (Str.ofString "IHGFEDCBA").cps.toList = letters.map (64 + ·) := by decide
theorem up1_eq {c : Nat} (h : Sign c) : up1 c = 64 + c % 32 := by
  have hc : c < 128 := by unfold Sign at h; omega
  have := up1_sign c hc h
  omega
theorem count_upper {x : Str} (hx : Word x) (v : Nat) : Txt.count (Txt.upper x) ⟨#[64 + v]⟩ = cntOf x v := by
  rw [PyProof.Rows.count_cnt, upper_ascii hx.ascii]
  simp only [Array.toList_map, cntOf, vals]
  have key : ∀ l : List Nat, (∀ c ∈ l, Sign c) → PyProof.Rows.cnt (64 + v) (l.map up1) = (((l.map (· % 32)).count v : Nat) : Int) := by
    intro l
    induction l with
    | nil => intro _; rfl
    | cons c r ih =>
      intro hl
      have h1 := up1_eq (hl c List.mem_cons_self)
      have h2 := ih fun z hz => hl z (List.mem_cons_of_mem _ hz)
      rw [List.map_cons, PyProof.Rows.cnt_cons, h2, h1, List.map_cons, List.count_cons]
      by_cases e : c % 32 = v
      · simp [e]; omega
      · have e' : ¬ (64 + c % 32 = 64 + v) := by omega
        simp [e, e']
  exact key _ hx
/-- the tab stops of a word: sum of v / ts, and its length -/
def qs (vs : List Nat) (ts : Nat) : Nat := (vs.map (· / ts)).sum
theorem qs_cons (v : Nat) (vs : List Nat) (ts : Nat) : qs (v :: vs) ts = v / ts + qs vs ts := by simp [qs]
theorem qs_append (vs ws : List Nat) (ts : Nat) : qs (vs ++ ws) ts = qs vs ts + qs ws ts := by simp [qs]
theorem qs_big {vs : List Nat} {ts : Nat} (h : ∀ v ∈ vs, v < ts) : qs vs ts = 0 := by
  induction vs with
  | nil => rfl
  | cons v vs ih =>
    rw [qs_cons, ih fun x hx => h x (List.mem_cons_of_mem _ hx), Nat.div_eq_of_lt (h v List.mem_cons_self)]
theorem qs_split (vs : List Nat) {ts : Nat} (h : 1 ≤ ts) : qs vs ts = vs.count ts + qs (vs.filter (fun v => decide (ts < v))) ts := by
  induction vs with
  | nil => rfl
  | cons v vs ih =>
    rw [qs_cons, ih, List.count_cons, List.filter_cons]
    by_cases h1 : ts < v
    · have h2 : ¬ v = ts := by omega
      simp only [h1, decide_true, if_true, qs_cons]
      have : (v == ts) = false := by simpa using h2
      rw [this]
      simp; omega
    · simp only [h1, decide_false]
      by_cases h2 : v = ts
      · subst h2
        rw [Nat.div_self (by omega)]
        simp; omega
      · have : (v == ts) = false := by simpa using h2
        rw [this, Nat.div_eq_of_lt (by omega)]
        simp
theorem qs_perm {vs ws : List Nat} (h : vs.Perm ws) (ts : Nat) : qs vs ts = qs ws ts := by
  unfold qs
  exact (h.map _).sum_nat
theorem filter_perm {vs ws : List Nat} {ts : Nat} (h : ∀ i, ts < i → vs.count i = ws.count i) : (vs.filter (fun v => decide (ts < v))).Perm (ws.filter (fun v => decide (ts < v))) := by
  rw [List.perm_iff_count]
  intro i
  by_cases h1 : ts < i
  · rw [List.count_filter (by simpa using h1), List.count_filter (by simpa using h1), h i h1]
  · rw [List.count_eq_zero_of_not_mem, List.count_eq_zero_of_not_mem]
    · intro hm; exact h1 (by simpa using (List.mem_filter.mp hm).2)
    · intro hm; exact h1 (by simpa using (List.mem_filter.mp hm).2)
/-- the key: where all larger counts agree, the stops differ by the count -/
theorem qs_key {vs ws : List Nat} {ts : Nat} (h : 1 ≤ ts) (hc : ∀ i, ts < i → vs.count i = ws.count i) : (qs ws ts : Int) - qs vs ts = (ws.count ts : Int) - vs.count ts := by
  have h1 := qs_split vs h
  have h2 := qs_split ws h
  have h3 := qs_perm (filter_perm hc) ts
  omega
/-- the counts of a word, from the last -/
theorem getD_bump (cs : List Int) (b i : Nat) : (bump cs b).getD i 0 = cs.getD i 0 + (if i = b then 1 else 0) := by
  unfold bump
  simp only [List.getD_eq_getElem?_getD, List.getElem?_set, List.getElem?_append, List.getElem?_replicate]
  by_cases h : b = i
  · subst h
    simp only [if_true]
    split
    · split
      · simp_all
      · rename_i h0 h1
        simp only [Nat.not_lt] at h1
        rw [if_pos (by omega), List.getElem?_eq_none h1]; rfl
    · rename_i h1
      simp only [List.length_append, List.length_replicate] at h1
      omega
  · have h' : ¬ i = b := fun e => h e.symm
    simp only [h, h', if_false, Int.add_zero]
    split
    · rfl
    · rename_i h1
      rw [List.getElem?_eq_none (l := cs) (by omega)]
      split <;> rfl
def csOf (vs : List Nat) : List Int := vs.foldl bump []
theorem csOf_snoc (vs : List Nat) (v : Nat) : csOf (vs ++ [v]) = bump (csOf vs) v := by simp [csOf, List.foldl_append]
theorem snoc_ind {P : List Nat → Prop} (h0 : P []) (h1 : ∀ l x, P l → P (l ++ [x])) (l : List Nat) : P l := by
  have : ∀ m : List Nat, P m.reverse := by
    intro m
    induction m with
    | nil => exact h0
    | cons x m ih => rw [List.reverse_cons]; exact h1 _ _ ih
  have := this l.reverse
  rwa [List.reverse_reverse] at this
theorem csOf_get (vs : List Nat) (i : Nat) : (csOf vs).getD i 0 = (vs.count i : Nat) := by
  induction vs using snoc_ind with
  | h0 => rfl
  | h1 l x ih =>
    rw [csOf_snoc, getD_bump, ih, List.count_append, List.count_singleton]
    by_cases h : i = x
    · subst h; simp
    · have : (x == i) = false := by simpa using fun e => h (Eq.symm e)
      simp [h, this]
theorem csOf_lt (vs : List Nat) (i : Nat) : i < (csOf vs).length ↔ ∃ v ∈ vs, i ≤ v := by
  induction vs using snoc_ind with
  | h0 => simp [csOf]
  | h1 l x ih =>
    rw [csOf_snoc, bump_length]
    constructor
    · intro h
      by_cases h1 : i < (csOf l).length
      · obtain ⟨v, hv, hi⟩ := ih.mp h1
        exact ⟨v, List.mem_append_left _ hv, hi⟩
      · exact ⟨x, List.mem_append_right _ (List.mem_singleton.mpr rfl), by omega⟩
    · rintro ⟨v, hv, hi⟩
      rcases List.mem_append.mp hv with hv | hv
      · have := ih.mpr ⟨v, hv, hi⟩; omega
      · rw [List.mem_singleton.mp hv] at hi; omega
theorem csOf_eq {vs ws : List Nat} : csOf vs = csOf ws ↔ ∀ i, vs.count i = ws.count i := by
  constructor
  · intro h i
    have h1 := csOf_get vs i
    rw [h, csOf_get] at h1
    omega
  · intro h
    have hmem : ∀ v, v ∈ vs ↔ v ∈ ws := fun v => by rw [← List.count_pos_iff, ← List.count_pos_iff, h]
    have hlen : (csOf vs).length = (csOf ws).length := by
      have e : ∀ i, i < (csOf vs).length ↔ i < (csOf ws).length := fun i => by
        rw [csOf_lt, csOf_lt]
        exact ⟨fun ⟨v, a, b⟩ => ⟨v, (hmem v).mp a, b⟩, fun ⟨v, a, b⟩ => ⟨v, (hmem v).mpr a, b⟩⟩
      rcases Nat.lt_trichotomy (csOf vs).length (csOf ws).length with q | q | q
      · have := (e _).mpr q; omega
      · exact q
      · have := (e _).mp q; omega
    refine List.ext_getElem hlen fun i h1 h2 => ?_
    have g1 := csOf_get vs i
    have g2 := csOf_get ws i
    rw [List.getD_eq_getElem?_getD, List.getElem?_eq_getElem h1] at g1
    rw [List.getD_eq_getElem?_getD, List.getElem?_eq_getElem h2] at g2
    simp only [Option.getD_some] at g1 g2
    rw [g1, g2, h]
/-- the object of a raw text -/
theorem st_eq (vs : List Nat) (t : Nat) : wst (rawOf vs t) = ⟨csOf vs, t, qs vs 1 + vs.length + t, vs.length⟩ := by
  have sp : ∀ (k : Nat) (σ : Wst), (List.replicate k 32).foldl wstep σ = ⟨σ.cs, σ.b + k, σ.n + k, σ.nt⟩ := by
    intro k
    induction k with
    | zero => intro σ; rfl
    | succ k ih =>
      intro σ
      rw [List.replicate_succ, List.foldl_cons, ih]
      simp only [wstep, if_true, Wst.mk.injEq, true_and, and_true]
      omega
  have hb : ∀ vs : List Nat, (blk vs).foldl wstep ⟨[], 0, 0, 0⟩ = ⟨csOf vs, 0, qs vs 1 + vs.length, vs.length⟩ := by
    intro vs
    induction vs using snoc_ind with
    | h0 => rfl
    | h1 l x ih =>
      have e : blk (l ++ [x]) = blk l ++ (List.replicate x 32 ++ [9]) := by simp [blk]
      rw [e, List.foldl_append, ih, List.foldl_append, sp, csOf_snoc, qs_append]
      simp only [List.foldl_cons, List.foldl_nil, wstep, Nat.zero_add, List.length_append, List.length_singleton]
      have : qs [x] 1 = x := by simp [qs]
      rw [this]
      simp only [show ¬ (9 : Nat) = 32 by decide, if_false, Wst.mk.injEq, true_and, and_true]
      omega
  unfold wst rawOf
  rw [List.foldl_append, hb, sp]
  simp
/-- the object that a word and a tail make -/
abbrev st (vs : List Nat) (t : Nat) : Wst := wst (rawOf vs t)
theorem sum_add {α : Type} (l : List α) (f g : α → Nat) : (l.map fun j => f j + g j).sum = (l.map f).sum + (l.map g).sum := by
  induction l with
  | nil => rfl
  | cons x l ih => simp only [List.map_cons, List.sum_cons, ih]; omega
theorem one_sum (v ts : Nat) (hts : 1 ≤ ts) (k : Nat) : ((List.range k).map fun j => (ts + j) / ts * (if v = ts + j then 1 else 0)).sum = if ts ≤ v ∧ v < ts + k then v / ts else 0 := by
  induction k with
  | zero => simp; omega
  | succ k ih =>
    rw [List.range_succ, List.map_append, List.sum_append, ih]
    by_cases h : v = ts + k
    · subst h; simp
    · by_cases h2 : ts ≤ v ∧ v < ts + k
      · rw [if_pos h2, if_pos (by omega)]; simp [h]
      · rw [if_neg h2, if_neg (by omega)]; simp [h]
theorem count_sum (ts : Nat) (hts : 1 ≤ ts) (k : Nat) (vs : List Nat) (h : ∀ v ∈ vs, v < ts + k) : ((List.range k).map fun j => (ts + j) / ts * vs.count (ts + j)).sum = qs vs ts := by
  induction vs with
  | nil =>
    have : ∀ l : List Nat, (l.map fun j => (ts + j) / ts * ([] : List Nat).count (ts + j)).sum = 0 := by
      intro l
      induction l with
      | nil => rfl
      | cons x l ih => rw [List.map_cons, List.sum_cons, ih]; simp
    exact this _
  | cons v vs ih =>
    rw [qs_cons, ← ih fun x hx => h x (List.mem_cons_of_mem _ hx)]
    have e : (fun j => (ts + j) / ts * (v :: vs).count (ts + j)) = fun j => (ts + j) / ts * (if v = ts + j then 1 else 0) + (ts + j) / ts * vs.count (ts + j) := by
      funext j
      rw [List.count_cons, Nat.mul_add, Nat.add_comm]
      congr 2
      by_cases q : v = ts + j
      · simp [q]
      · simp [q]
    rw [e, sum_add, one_sum v ts hts]
    have hv := h v List.mem_cons_self
    by_cases q : ts ≤ v
    · rw [if_pos ⟨q, hv⟩]
    · rw [if_neg (by omega), Nat.div_eq_of_lt (by omega)]
theorem il_eq (vs : List Nat) (ts k : Nat) (hts : 1 ≤ ts) (h : ∀ v ∈ vs, v < ts + k) : ilsum (csOf vs) (ts : Int) k = (qs vs ts : Int) := by
  rw [← count_sum ts hts k vs h]
  unfold ilsum
  have : ∀ l : List Nat, (l.map fun j => Int.fdiv ((ts : Int) + (j : Nat)) ts * (csOf vs).getD ((ts : Int) + (j : Nat)).toNat 0).sum = (((l.map fun j => (ts + j) / ts * vs.count (ts + j)).sum : Nat) : Int) := by
    intro l
    induction l with
    | nil => rfl
    | cons j l ih =>
      rw [List.map_cons, List.sum_cons, ih, List.map_cons, List.sum_cons]
      have e1 : ((ts : Int) + (j : Nat)).toNat = ts + j := by omega
      have e2 : Int.fdiv ((ts : Int) + (j : Nat)) ts = (((ts + j) / ts : Nat) : Int) := by
        rw [Int.fdiv_eq_ediv_of_nonneg _ (by omega)]
        norm_cast
      rw [e1, e2, csOf_get]
      push_cast
      rfl
  exact this _
theorem lvl_eq (vs : List Nat) (t ts : Nat) (hts : 1 ≤ ts) : lvl (st vs t) (ts : Int) = ((t + ts * (qs vs ts + vs.length) : Nat) : Int) := by
  unfold lvl
  rw [st, st_eq]
  dsimp only
  rw [il_eq vs ts _ hts]
  · push_cast; rfl
  · intro v hv
    have := (csOf_lt vs v).mpr ⟨v, hv, Nat.le_refl _⟩
    omega
theorem L_b (vs : List Nat) (t : Nat) : (st vs t).b = t := by rw [st, st_eq]
theorem L_cs (vs : List Nat) (t : Nat) : (st vs t).cs = csOf vs := by rw [st, st_eq]
theorem L_n (vs : List Nat) (t : Nat) : (st vs t).n = qs vs 1 + vs.length + t := by rw [st, st_eq]
theorem L_nt (vs : List Nat) (t : Nat) : (st vs t).nt = vs.length := by rw [st, st_eq]
theorem L_len {vs : List Nat} (h : ∀ v ∈ vs, v ≤ 9) (t : Nat) : (st vs t).cs.length ≤ 10 := by
  rw [L_cs]
  apply Nat.le_of_not_lt
  intro q
  obtain ⟨v, hv, hi⟩ := (csOf_lt vs 10).mp q
  have := h v hv
  omega
theorem mx_v {vs : List Nat} {t v : Nat} (hv : v ∈ vs) : (v : Int) ≤ mx (st vs t) := by
  unfold mx
  rw [L_cs]
  have := (csOf_lt vs v).mpr ⟨v, hv, Nat.le_refl _⟩
  omega
theorem mx_t (vs : List Nat) (t : Nat) : (t : Int) ≤ mx (st vs t) := by
  unfold mx
  rw [L_b]
  omega
theorem mx_is (vs : List Nat) (t : Nat) : mx (st vs t) = t ∨ ∃ v ∈ vs, mx (st vs t) ≤ (v : Int) := by
  unfold mx
  rw [L_b, L_cs]
  by_cases h : (t : Int) < ((csOf vs).length : Int) - 1
  · obtain ⟨v, hv, hi⟩ := (csOf_lt vs ((csOf vs).length - 1)).mp (by omega)
    exact .inr ⟨v, hv, by omega⟩
  · exact .inl (by omega)
theorem L_reach {vs ws : List Nat} {a b : Nat} {M : Int} (h1 : M ∈ (vs ++ ws).map (fun v => ((v : Nat) : Int)) ++ [(a : Int), (b : Int)]) (h2 : ∀ x ∈ (vs ++ ws).map (fun v => ((v : Nat) : Int)) ++ [(a : Int), (b : Int)], x ≤ M) :
    M + 1 = reach (st vs a) (st ws b) := by
  have ha : (a : Int) ≤ M := h2 _ (by simp)
  have hb : (b : Int) ≤ M := h2 _ (by simp)
  have hvs : ∀ v ∈ vs, (v : Int) ≤ M := fun v hv => h2 _ (List.mem_append_left _ (List.mem_map.mpr ⟨v, List.mem_append_left _ hv, rfl⟩))
  have hws : ∀ v ∈ ws, (v : Int) ≤ M := fun v hv => h2 _ (List.mem_append_left _ (List.mem_map.mpr ⟨v, List.mem_append_right _ hv, rfl⟩))
  have u1 : mx (st vs a) ≤ M := by
    rcases mx_is vs a with e | ⟨v, hv, e⟩
    · omega
    · have := hvs v hv; omega
  have u2 : mx (st ws b) ≤ M := by
    rcases mx_is ws b with e | ⟨v, hv, e⟩
    · omega
    · have := hws v hv; omega
  have t1 := mx_t vs a
  have t2 := mx_t ws b
  have lo : M ≤ mx (st vs a) ∨ M ≤ mx (st ws b) := by
    simp only [List.mem_append, List.mem_map, List.mem_cons, List.not_mem_nil, or_false] at h1
    rcases h1 with ⟨v, hv | hv, rfl⟩ | rfl | rfl
    · exact .inl (mx_v hv)
    · exact .inr (mx_v hv)
    · exact .inl t1
    · exact .inr t2
  unfold reach
  omega
theorem colOf_eq (vs : List Nat) (ts : Nat) (hts : 1 ≤ ts) : colOf (ts : Int) vs = ((ts * (qs vs ts + vs.length) : Nat) : Int) := by
  induction vs using snoc_ind with
  | h0 => simp [colOf, qs]
  | h1 l x ih =>
    rw [colOf_snoc, ih, qs_append, List.length_append]
    unfold colStep
    have e1 : qs [x] ts = x / ts := by simp [qs]
    rw [Int.fmod_eq_emod_of_nonneg _ (by omega)]
    have e2 : (((ts * (qs l ts + l.length) : Nat) : Int) + (x : Int)) % (ts : Int) = ((x % ts : Nat) : Int) := by
      have : (((ts * (qs l ts + l.length) : Nat) : Int) + (x : Int)) = ((ts * (qs l ts + l.length) + x : Nat) : Int) := by push_cast; rfl
      rw [this]
      have e : ∀ m : Nat, ((m : Nat) : Int) % (ts : Int) = ((m % ts : Nat) : Int) := fun m => rfl
      rw [e, Nat.mul_add_mod]
    rw [e2, e1, List.length_singleton]
    have e3 := Nat.div_add_mod x ts
    have e4 : ts * (qs l ts + x / ts + (l.length + 1)) = ts * (qs l ts + l.length) + ts * (x / ts) + ts := by
      rw [Nat.mul_add, Nat.mul_add, Nat.mul_add, Nat.mul_add, Nat.mul_one]; omega
    rw [e4]
    omega
theorem L_level {vs : List Nat} {t : Nat} {ts : Int} (h : 1 ≤ ts) : colOf ts vs + t = lvl (st vs t) ts := by
  obtain ⟨n, rfl⟩ : ∃ n : Nat, ts = n := ⟨ts.toNat, by omega⟩
  rw [colOf_eq vs n (by omega), lvl_eq vs t n (by omega)]
  omega
theorem vals_le {x : Str} (h : Word x) : ∀ v ∈ vals x, v ≤ 9 := by
  intro v hv
  simp only [vals, List.mem_map] at hv
  obtain ⟨c, hc, rfl⟩ := hv
  have := h c hc
  unfold Sign at this
  omega
theorem rowLvl (i : Nat) : (1 + (i : Int)) = ((i + 1 : Nat) : Int) := by push_cast; omega
theorem unlike_nil {σ τ : Wst} {k : Nat} : unlike (table σ τ k) = [] ↔ ∀ i, i < k → lvl σ ((i + 1 : Nat) : Int) = lvl τ ((i + 1 : Nat) : Int) := by
  simp only [unlike, table, List.filter_eq_nil_iff, List.mem_map, List.mem_range, forall_exists_index, and_imp, forall_apply_eq_imp_iff₂, rowAt, rowLvl, decide_eq_true_eq, ne_eq, Decidable.not_not]
theorem above_nil {σ τ : Wst} {k : Nat} : above (table σ τ k) = [] ↔ ∀ i, i < k → lvl σ ((i + 1 : Nat) : Int) < lvl τ ((i + 1 : Nat) : Int) := by
  simp only [above, table, List.filter_eq_nil_iff, List.mem_map, List.mem_range, forall_exists_index, and_imp, forall_apply_eq_imp_iff₂, rowAt, rowLvl, decide_eq_true_eq, ge_iff_le, Int.not_le]
def below (l : List Row) : List Row := l.filter fun r => decide (r.2.2 ≥ r.2.1)
theorem below_nil {σ τ : Wst} {k : Nat} : below (table σ τ k) = [] ↔ ∀ i, i < k → lvl τ ((i + 1 : Nat) : Int) < lvl σ ((i + 1 : Nat) : Int) := by
  simp only [below, table, List.filter_eq_nil_iff, List.mem_map, List.mem_range, forall_exists_index, and_imp, forall_apply_eq_imp_iff₂, rowAt, rowLvl, decide_eq_true_eq, ge_iff_le, Int.not_le]
theorem reach_comm (σ τ : Wst) : reach σ τ = reach τ σ := by unfold reach; omega
/-- the sizes that are looked at lie above all runs -/
theorem reach_v {vs ws : List Nat} {a b : Nat} : (∀ v ∈ vs, v < (reach (st vs a) (st ws b)).toNat) ∧ (∀ v ∈ ws, v < (reach (st vs a) (st ws b)).toNat) ∧ a < (reach (st vs a) (st ws b)).toNat ∧ b < (reach (st vs a) (st ws b)).toNat := by
  have t1 := mx_t vs a
  have t2 := mx_t ws b
  unfold reach
  refine ⟨fun v hv => ?_, fun v hv => ?_, by omega, by omega⟩
  · have := mx_v (t := a) hv; omega
  · have := mx_v (t := b) hv; omega
theorem len_split (vs : List Nat) : vs.length = vs.count 0 + (vs.filter (fun v => decide (0 < v))).length := by
  induction vs with
  | nil => rfl
  | cons v vs ih =>
    rw [List.length_cons, ih, List.count_cons, List.filter_cons]
    by_cases h : v = 0
    · subst h; simp; omega
    · have h1 : 0 < v := by omega
      have h2 : (v == 0) = false := by simpa using h
      simp [h1, h2]; omega
theorem counts_down {vs ws : List Nat} {n : Nat} (h1 : ∀ v ∈ vs, v < n) (h2 : ∀ v ∈ ws, v < n) (hq : ∀ ts, 1 ≤ ts → ts ≤ n → qs vs ts = qs ws ts) : ∀ k i, n ≤ i + k → 1 ≤ i → vs.count i = ws.count i := by
  intro k
  induction k with
  | zero =>
    intro i hi _
    rw [List.count_eq_zero_of_not_mem fun hm => by have := h1 i hm; omega, List.count_eq_zero_of_not_mem fun hm => by have := h2 i hm; omega]
  | succ k ih =>
    intro i hi h0
    by_cases q : n ≤ i
    · exact ih i (by omega) h0
    · have := qs_key (vs := vs) (ws := ws) h0 (fun j hj => ih j (by omega) (by omega))
      rw [hq i h0 (by omega)] at this
      omega
theorem equal_core {vs ws : List Nat} {a b : Nat} : ((st vs a).cs = (st ws b).cs ∧ ((st vs a).b : Int) = (st ws b).b) ↔ unlike (table (st vs a) (st ws b) (reach (st vs a) (st ws b)).toNat) = [] := by
  rw [unlike_nil, L_cs, L_cs, L_b, L_b, csOf_eq]
  obtain ⟨r1, r2, r3, r4⟩ := reach_v (vs := vs) (ws := ws) (a := a) (b := b)
  generalize (reach (st vs a) (st ws b)).toNat = n at *
  constructor
  · rintro ⟨hc, hab⟩ i _
    have hp : vs.Perm ws := List.perm_iff_count.mpr hc
    rw [lvl_eq _ _ _ (by omega), lvl_eq _ _ _ (by omega), qs_perm hp, hp.length_eq]
    omega
  · intro h
    have hn := h (n - 1) (by omega)
    rw [show n - 1 + 1 = n by omega, lvl_eq _ _ _ (by omega), lvl_eq _ _ _ (by omega), qs_big r1, qs_big r2, Nat.zero_add, Nat.zero_add] at hn
    have hn' : a + n * vs.length = b + n * ws.length := by omega
    have hab : a = b := by
      have e1 : (a + n * vs.length) % n = a := by rw [Nat.add_mul_mod_self_left, Nat.mod_eq_of_lt r3]
      have e2 : (b + n * ws.length) % n = b := by rw [Nat.add_mul_mod_self_left, Nat.mod_eq_of_lt r4]
      rw [hn', e2] at e1
      exact e1.symm
    have hl : vs.length = ws.length := by
      have : n * vs.length = n * ws.length := by omega
      exact Nat.eq_of_mul_eq_mul_left (by omega) this
    have hq : ∀ ts, 1 ≤ ts → ts ≤ n → qs vs ts = qs ws ts := by
      intro ts h0 h1
      have := h (ts - 1) (by omega)
      rw [show ts - 1 + 1 = ts by omega, lvl_eq _ _ _ h0, lvl_eq _ _ _ h0] at this
      have e : ts * (qs vs ts + vs.length) = ts * (qs ws ts + ws.length) := by omega
      have := Nat.eq_of_mul_eq_mul_left (by omega) e
      omega
    have hc := counts_down r1 r2 hq n
    refine ⟨fun i => ?_, by omega⟩
    by_cases q : 1 ≤ i
    · exact hc i (by omega) q
    · have : i = 0 := by omega
      subst this
      have s1 := len_split vs
      have s2 := len_split ws
      have s3 := (filter_perm (vs := vs) (ws := ws) (ts := 0) fun i hi => hc i (by omega) hi).length_eq
      omega
theorem L_equal {vs ws : List Nat} {a b : Nat} (_hv : ∀ v ∈ vs, v ≤ 9) (_hw : ∀ v ∈ ws, v ≤ 9) :
    decide ((st vs a).cs = (st ws b).cs ∧ ((st vs a).b : Int) = (st ws b).b) = decide (unlike (table (st vs a) (st ws b) (reach (st vs a) (st ws b)).toNat) = []) :=
  decide_eq_decide.mpr equal_core
theorem less_core {vs ws : List Nat} {a b : Nat} : lessV (st vs a) (st ws b) = true ↔ ∀ i, i < (reach (st vs a) (st ws b)).toNat → lvl (st vs a) ((i + 1 : Nat) : Int) < lvl (st ws b) ((i + 1 : Nat) : Int) := by
  obtain ⟨r1, r2, r3, r4⟩ := reach_v (vs := vs) (ws := ws) (a := a) (b := b)
  have e1 : lvl (st vs a) ((0 + 1 : Nat) : Int) = ((qs vs 1 + vs.length + a : Nat) : Int) := by rw [lvl_eq _ _ _ (by omega), Nat.zero_add, Nat.one_mul]; omega
  have e2 : lvl (st ws b) ((0 + 1 : Nat) : Int) = ((qs ws 1 + ws.length + b : Nat) : Int) := by rw [lvl_eq _ _ _ (by omega), Nat.zero_add, Nat.one_mul]; omega
  have hn : 1 ≤ (reach (st vs a) (st ws b)).toNat := by omega
  unfold lessV
  rw [L_n, L_n, L_nt, L_nt, L_cs, L_cs]
  by_cases q : ((qs ws 1 + ws.length + b : Nat) : Int) ≤ ((qs vs 1 + vs.length + a : Nat) : Int)
  · rw [if_pos q]
    constructor
    · intro h; cases h
    · intro h
      have := h 0 (by omega)
      omega
  · rw [if_neg q]
    by_cases p : (((csOf vs).length : Int) ≤ 1 ∧ ((csOf ws).length : Int) ≤ 1)
    · rw [if_pos p, decide_eq_true_eq]
      have z1 : ∀ v ∈ vs, v < 1 := fun v hv => by have := (csOf_lt vs v).mpr ⟨v, hv, Nat.le_refl _⟩; omega
      have z2 : ∀ v ∈ ws, v < 1 := fun v hv => by have := (csOf_lt ws v).mpr ⟨v, hv, Nat.le_refl _⟩; omega
      have qz : ∀ (l : List Nat) (ts : Nat), (∀ v ∈ l, v < 1) → 1 ≤ ts → qs l ts = 0 := fun l ts hl ht => qs_big fun v hv => by have := hl v hv; omega
      rw [qz vs 1 z1 (by omega), qz ws 1 z2 (by omega)] at q
      generalize (reach (st vs a) (st ws b)).toNat = n at *
      constructor
      · intro h i hi
        rw [lvl_eq _ _ _ (by omega), lvl_eq _ _ _ (by omega), qz vs _ z1 (by omega), qz ws _ z2 (by omega), Nat.zero_add, Nat.zero_add]
        obtain ⟨d, hd⟩ : ∃ d, ws.length = vs.length + d := ⟨ws.length - vs.length, by omega⟩
        rw [hd, Nat.mul_add]
        have : d ≤ (i + 1) * d := Nat.le_mul_of_pos_left _ (by omega)
        omega
      · intro h
        have := h (n - 1) (by omega)
        rw [show n - 1 + 1 = n by omega, lvl_eq _ _ _ (by omega), lvl_eq _ _ _ (by omega), qz vs _ z1 (by omega), qz ws _ z2 (by omega), Nat.zero_add, Nat.zero_add] at this
        apply Int.le_of_not_gt
        intro hgt
        obtain ⟨d, hd⟩ : ∃ d, vs.length = ws.length + (1 + d) := ⟨vs.length - ws.length - 1, by omega⟩
        rw [hd, Nat.mul_add, Nat.mul_add, Nat.mul_one] at this
        omega
    · rw [if_neg p, decide_eq_true_eq]
      constructor
      · intro h i hi
        by_cases hi0 : i = 0
        · subst hi0; rw [e1, e2]; omega
        · have := h (i - 1) (by omega)
          rw [show (2 + ((i - 1 : Nat) : Int)) = ((i + 1 : Nat) : Int) by omega] at this
          exact this
      · intro h j hj
        have := h (j + 1) (by omega)
        rw [show (2 + (j : Int)) = ((j + 1 + 1 : Nat) : Int) by omega]
        exact this
theorem L_less {vs ws : List Nat} {a b : Nat} (_hv : ∀ v ∈ vs, v ≤ 9) (_hw : ∀ v ∈ ws, v ≤ 9) :
    lessV (st vs a) (st ws b) = decide (above (table (st vs a) (st ws b) (reach (st vs a) (st ws b)).toNat) = []) := by
  rw [Bool.eq_iff_iff, decide_eq_true_eq, above_nil]
  exact less_core
theorem L_less' {vs ws : List Nat} {a b : Nat} (_hv : ∀ v ∈ vs, v ≤ 9) (_hw : ∀ v ∈ ws, v ≤ 9) :
    lessV (st ws b) (st vs a) = decide (below (table (st vs a) (st ws b) (reach (st vs a) (st ws b)).toNat) = []) := by
  rw [Bool.eq_iff_iff, decide_eq_true_eq, below_nil, reach_comm]
  exact less_core
theorem L_reach_le {vs ws : List Nat} {a b : Nat} (hv : ∀ v ∈ vs, v ≤ 9) (hw : ∀ v ∈ ws, v ≤ 9) (ha : a ≤ 7) (hb : b ≤ 7) : 1 ≤ reach (st vs a) (st ws b) ∧ reach (st vs a) (st ws b) ≤ 20 := by
  have l1 := L_len hv a
  have l2 := L_len hw b
  have b1 := L_b vs a
  have b2 := L_b ws b
  have h := reach_n (N := 10) l1 (show (st vs a).b ≤ 10 by omega) l2 (show (st ws b).b ≤ 10 by omega)
  exact ⟨h.1, Int.le_trans h.2 (by decide)⟩
/-- the law's statements from some place on, run to their end -/
abbrev LawGo (w : World) (d u : Nat) (fr : Option (List Env)) (g : Option (List Code)) (qual : Str) (scope : Scope) (cdv : Value) (s₀ : Shared) (L : Addr) (stmts : List Stmt) (s : Shared) : Prop :=
  wpAny (model PG w) ((⟨none, d, fr, g, u⟩ : Around).deeper (envOfC qual scope L 130 cdv)) (execs stmts (envOfC qual scope L 130 cdv))
    (fun fl s' => Ends s₀ (fun v _ => v = .bool true) (match fl with | .ret v => v | _ => .none) s') (fun _ _ => False) s
/-- the law's five cells: cells, first, second, tail, other -/
structure Cells5 (A B : Str) (a b : Nat) (o₁ o₂ o₃ o₄ o₅ : Obj) : Prop where
  d₁ : ∃ v, o₁.data = .cell v
  d₂ : ∃ t, o₂.data = .cell (some (.str A t))
  d₃ : ∃ t, o₃.data = .cell (some (.str B t))
  d₄ : ∃ t, o₄.data = .cell (some (.int a t))
  d₅ : ∃ t, o₅.data = .cell (some (.int b t))
abbrev cl5 (L : Addr) (o₁ o₂ o₃ o₄ o₅ : Obj) (rest : List (Addr × Obj)) : List (Addr × Obj) :=
  (L + 1 + 1 + 1 + 1 + 1, o₅) :: (L + 1 + 1 + 1 + 1, o₄) :: (L + 1 + 1 + 1, o₃) :: (L + 1 + 1, o₂) :: (L + 1, o₁) :: rest
theorem Cells5.calm {A B : Str} {a b : Nat} {o₁ o₂ o₃ o₄ o₅ : Obj} (c : Cells5 A B a b o₁ o₂ o₃ o₄ o₅) {L : Addr} {rest : List (Addr × Obj)} (hr : Calm rest) : Calm (cl5 L o₁ o₂ o₃ o₄ o₅ rest) := by
  obtain ⟨⟨v, h1⟩, ⟨t2, h2⟩, ⟨t3, h3⟩, ⟨t4, h4⟩, ⟨t5, h5⟩⟩ := c
  refine Calm.cons (fun vs h => ?_) (Calm.cons (fun vs h => ?_) (Calm.cons (fun vs h => ?_) (Calm.cons (fun vs h => ?_) (Calm.cons (fun vs h => ?_) hr))))
  · rw [h5] at h; cases h
  · rw [h4] at h; cases h
  · rw [h3] at h; cases h
  · rw [h2] at h; cases h
  · rw [h1] at h; cases h
def Off5 (L : Addr) (led : List (Addr × Obj)) : Prop := ∀ p ∈ led, (@Ne Nat p.1 (L + 5)) ∧ (@Ne Nat p.1 (L + 4)) ∧ (@Ne Nat p.1 (L + 3)) ∧ (@Ne Nat p.1 (L + 2)) ∧ (@Ne Nat p.1 (L + 1))
theorem Fr.ovr {h₀ h : Heap} {L : Addr} {m : Str → Option Value} (F : Fr h₀ L h m) {ps : List (Str × Option Value)} (hp : ∀ p ∈ ps, m p.1 = p.2) : Fr h₀ L h (ov ps m) := by
  have e : m = ov ps m := ov_eq hp fun _ _ => rfl
  rw [← e]; exact F
theorem news_rot5 {h₀ h : Heap} {L : Addr} {x y c₁ c₂ c₃ c₄ c₅ : Addr × Obj} (N : News h₀ L h [x, y, c₅, c₄, c₃, c₂, c₁]) : News h₀ L h (x :: c₅ :: c₄ :: c₃ :: c₂ :: c₁ :: [y]) := fun p hp => N p (by
  simp only [List.mem_cons] at hp ⊢; grind)
theorem CompEnd.push5 {h₀ : Heap} {L I C D T : Addr} {m : Str → Option Value} {s₁ : Shared} {oI oC oD oT o₁ o₂ o₃ o₄ o₅ : Obj} {rest : Value → List (Addr × Obj) → Prop} {y : Value} {h' : Heap} {tk : Nat} {tl : List (Addr × Obj)}
    (F : Fr h₀ L h' m) (N : News h₀ L h' ((T, oT) :: (I, oI) :: (C, oC) :: (D, oD) :: cl5 L o₁ o₂ o₃ o₄ o₅ tl)) (ho : LCg.Off3 I C D (cl5 L o₁ o₂ o₃ o₄ o₅ tl)) (hT : (@Ne Nat T I) ∧ (@Ne Nat T C) ∧ (@Ne Nat T D)) (r : rest y (cl5 L o₁ o₂ o₃ o₄ o₅ ((T, oT) :: tl))) :
    LCg.CompEnd h₀ L m s₁ I oI C oC D oD (fun _ => True) rest y { s₁ with heap := h', toks := tk } := by
  refine LCg.CompEnd.intro F N _ (fun p hp => ?_) ?_ trivial r
  · simp only [List.mem_cons] at hp ⊢; grind
  · obtain ⟨q5, q4, q3, q2, q1, qt⟩ := ho
    exact ⟨q5, q4, q3, q2, q1, hT, qt⟩
theorem cl5_sub {L : Addr} {o₁ o₂ o₃ o₄ o₅ : Obj} {tl : List (Addr × Obj)} {x : Addr × Obj} {h₀ h : Heap} {L' : Addr} (N : News h₀ L' h (x :: cl5 L o₁ o₂ o₃ o₄ o₅ tl)) : News h₀ L' h (cl5 L o₁ o₂ o₃ o₄ o₅ (x :: tl)) := fun p hp => N p (by
  simp only [List.mem_cons] at hp ⊢; grind)
theorem off1_off5 {L D : Addr} {o₁ o₂ o₃ o₄ o₅ : Obj} {tl : List (Addr × Obj)} (ho : LCg.Off1 D (cl5 L o₁ o₂ o₃ o₄ o₅ tl)) : @Ne Nat (L + 5) D ∧ @Ne Nat (L + 4) D ∧ @Ne Nat (L + 3) D ∧ @Ne Nat (L + 2) D ∧ @Ne Nat (L + 1) D := by
  obtain ⟨q5, q4, q3, q2, q1, _⟩ := ho
  exact ⟨q5, q4, q3, q2, q1⟩
/-- what a frame makes lies above it -/
theorem news_above {h₀ h : Heap} {L : Addr} {m : Str → Option Value} {news : List (Addr × Obj)} {p : Addr × Obj} (F : Fr h₀ L h m) (N : News h₀ L h news) (hp : p ∈ news) : @Ne Nat p.1 L := (N p hp).2.1
theorem off5_lt {L D : Nat} (h : L + 1 + 1 + 1 + 1 + 1 < D) : (@Ne Nat D (L + 5)) ∧ (@Ne Nat D (L + 4)) ∧ (@Ne Nat D (L + 3)) ∧ (@Ne Nat D (L + 2)) ∧ (@Ne Nat D (L + 1)) := ⟨by omega, by omega, by omega, by omega, by omega⟩
theorem off5_ne {L D : Nat} (h : L + 5 ≠ D ∧ L + 4 ≠ D ∧ L + 3 ≠ D ∧ L + 2 ≠ D ∧ L + 1 ≠ D) : (@Ne Nat D (L + 5)) ∧ (@Ne Nat D (L + 4)) ∧ (@Ne Nat D (L + 3)) ∧ (@Ne Nat D (L + 2)) ∧ (@Ne Nat D (L + 1)) := ⟨h.1.symm, h.2.1.symm, h.2.2.1.symm, h.2.2.2.1.symm, h.2.2.2.2.symm⟩
theorem Off5.append {L : Addr} {a b : List (Addr × Obj)} (ha : Off5 L a) (hb : Off5 L b) : Off5 L (a ++ b) := fun p hp => (List.mem_append.mp hp).elim (ha p) (hb p)
open PyProof.Rows.LCg PyProof.Rows.LCt
section
variable {prog : Program} {w : World} {A : Around} {E : Value → Shared → Prop} {s : Shared} {h₀ : Heap} {L : Addr} {m : Str → Option Value} {env : Env}
theorem compIndT {ct elt : Expr} {x : Str} {scope : Scope} {cl : List (Str × Addr)} {S : List (Addr × Obj) → Prop} {P : Nat → Value → Prop} {Fin : List Value → List (Addr × Obj) → Prop} {n : Nat}
    (J : Nat → List Value → List (Addr × Obj) → Prop)
    (step : ∀ i ys news, i < n → J i ys news → ∀ v I oI C oC D m₂ h tk (E' : Value → Shared → Prop), P i v → NsObj oC m₂ → m₂ x = some v → Fr h₀ L h m → News h₀ L h ((I, oI) :: (C, oC) :: (D, lst ys) :: news) → Off3 I C D news → ((@Ne Nat I C) ∧ (@Ne Nat I D) ∧ (@Ne Nat C D)) →
      wpAny (model prog w) A (isTrue ct (compEnvC scope cl C env) (eval ct (compEnvC scope cl C env))) (fun ok s' => if ok = true then
        wpAny (model prog w) A (eval elt (compEnvC scope cl C env)) (LCg.CompEnd h₀ L m { s with heap := h, toks := tk } I oI C oC D (lst ys) S (fun y news' => J (i + 1) (ys ++ [y]) news')) E' s'
        else LCg.CompEnd h₀ L m { s with heap := h, toks := tk } I oI C oC D (lst ys) S (fun _ news' => J (i + 1) ys news') Value.none s') E' { s with heap := h, toks := tk })
    (fin : ∀ ys news, J n ys news → Fin ys news) :
    ∀ k i ys news, i + k = n → J i ys news → CompRestT prog w A h₀ L m env ct elt x scope cl s S P Fin k i ys news := by
  intro k
  induction k with
  | zero => intro i ys news hk hj; exact fin _ _ (by rw [Nat.add_zero] at hk; exact hk ▸ hj)
  | succ k ih =>
    intro i ys news hk hj
    refine CompRestT.succ ?_
    intro v I oI C oC D m₂ h tk E' hP hN hm F N o hne
    refine wpAny_mono (step i ys news (by omega) hj v I oI C oC D m₂ h tk E' hP hN hm F N o hne) (fun ok s₂ hy => ?_) fun _ _ e => e
    cases ok with
    | true =>
      simp only [if_true] at hy ⊢
      exact wpAny_mono hy (fun y s₃ hz => CompEnd.mono (fun y l hq => ih (i + 1) _ _ (by omega) hq) hz) fun _ _ e => e
    | false =>
      simp only [Bool.false_eq_true, if_false] at hy ⊢
      exact CompEnd.mono (fun y l hq => ih (i + 1) _ _ (by omega) hq) hy
end
theorem intsOf {tl : List (Addr × Obj)} {v : Value} {i : Int} (h : DatIn tl v (.int i)) : ∃ t, v = .int i t := by
  cases h with
  | int _ t => exact ⟨t, rfl⟩
/-- the i-th row of a list of rows -/
theorem rowGet {tl : List (Addr × Obj)} {us : List Value} {rows : List Row} (h : DatAll tl us (rows.map rowD)) {i : Nat} {v : Value} (hv : us[i]? = some v) :
    ∃ r a n t1 t2 t3, rows[i]? = some r ∧ v = .ref a ∧ (a, ({ cls := .type "tuple", data := .seq [.int r.1 t1, .int r.2.1 t2, .int r.2.2 t3].toArray n } : Obj)) ∈ tl := by
  have hlen := h.length
  have hi : i < (rows.map rowD).length := by rw [← hlen]; exact (List.getElem?_eq_some_iff.mp hv).1
  obtain ⟨v', h1, h2⟩ := h.get hi
  rw [hv] at h1
  cases h1
  have hi' : i < rows.length := by simpa using hi
  rw [List.getElem_map] at h2
  have hr : rows[i]? = some rows[i] := by simp [hi']
  generalize rows[i] = r at h2 hr
  obtain ⟨x, y, z⟩ := r
  cases h2 with
  | tuple hm hd =>
    cases hd with
    | cons e1 hd => cases hd with
      | cons e2 hd => cases hd with
        | cons e3 hd =>
          cases hd
          obtain ⟨t1, rfl⟩ := intsOf e1
          obtain ⟨t2, rfl⟩ := intsOf e2
          obtain ⟨t3, rfl⟩ := intsOf e3
          exact ⟨(x, y, z), _, _, t1, t2, t3, hr, rfl, hm⟩
theorem take_snoc {α : Type} {l : List α} {i : Nat} {x : α} (h : l[i]? = some x) : l.take (i + 1) = l.take i ++ [x] := by
  rw [List.take_add_one, h]; rfl
section
variable {prog : Program} {w : World} {A : Around} {E : Value → Shared → Prop} {s : Shared} {h₀ : Heap} {L a b : Addr} {news : List (Addr × Obj)} {ds es : List Dat} {Q : Value → Shared → Prop}
open Classical in
theorem eqList (N : News h₀ L s.heap news) (h1 : DatIn news (.ref a) (.list ds)) (h2 : DatIn news (.ref b) (.list es)) (ok1 : ∀ d ∈ ds, kqdOk 8 d = true) (ok2 : ∀ d ∈ es, kqdOk 8 d = true) (hu : A.units + 64 < cLine) {c : Bool} (hc : c = true ↔ ds = es)
    (h : Q (.bool c) s) : wpAny (model prog w) A (compareOp .Eq (.ref a) (.ref b)) Q E s := by
  cases h1 with
  | list ma Da => cases h2 with
    | list mb Db =>
      refine kqd_eq N ma rfl rfl Da (fun _ h => h) mb rfl rfl Db (fun _ h => h) ok1 ok2 hu ?_
      have : decide (ds = es) = c := by
        cases c with
        | true => exact decide_eq_true (hc.mp rfl)
        | false => exact decide_eq_false fun q => by have := hc.mpr q; cases this
      rw [this]; exact h
open Classical in
theorem neList (N : News h₀ L s.heap news) (h1 : DatIn news (.ref a) (.list ds)) (h2 : DatIn news (.ref b) (.list es)) (ok1 : ∀ d ∈ ds, kqdOk 8 d = true) (ok2 : ∀ d ∈ es, kqdOk 8 d = true) (hu : A.units + 64 < cLine) {c : Bool} (hc : c = true ↔ ds = es)
    (h : Q (.bool (!c)) s) : wpAny (model prog w) A (compareOp .NotEq (.ref a) (.ref b)) Q E s := by
  cases h1 with
  | list ma Da => cases h2 with
    | list mb Db =>
      refine kqd_ne N ma rfl rfl Da (fun _ h => h) mb rfl rfl Db (fun _ h => h) ok1 ok2 hu ?_
      have : decide (ds = es) = c := by
        cases c with
        | true => exact decide_eq_true (hc.mp rfl)
        | false => exact decide_eq_false fun q => by have := hc.mpr q; cases this
      rw [this]; exact h
end
theorem rowD_inj {a b : Row} (h : rowD a = rowD b) : a = b := by
  obtain ⟨x, y, z⟩ := a
  obtain ⟨x', y', z'⟩ := b
  simp only [rowD, Dat.tuple.injEq, List.cons.injEq, Dat.int.injEq, and_true] at h
  obtain ⟨h1, h2, h3⟩ := h
  rw [h1, h2, h3]
theorem map_inj {α β : Type} {f : α → β} (hf : ∀ a b, f a = f b → a = b) : ∀ {l l' : List α}, l.map f = l'.map f → l = l'
  | [], [], _ => rfl
  | [], _ :: _, h => by cases h
  | _ :: _, [], h => by cases h
  | x :: l, y :: l', h => by
    simp only [List.map_cons, List.cons.injEq] at h
    rw [hf _ _ h.1, map_inj hf h.2]
theorem rows_iff {l l' : List Row} : l.map rowD = l'.map rowD ↔ l = l' := ⟨map_inj (fun _ _ => rowD_inj), fun h => by rw [h]⟩
theorem rows_ok (l : List Row) : ∀ d ∈ l.map rowD, kqdOk 8 d = true := by
  intro d hd
  obtain ⟨r, _, rfl⟩ := List.mem_map.mp hd
  rfl
section
variable {prog : Program} {w : World} {A : Around} {E : Value → Shared → Prop} {s : Shared} {h₀ : Heap} {L a b : Addr} {news : List (Addr × Obj)} {l l' : List Row} {Q : Value → Shared → Prop}
theorem eqRows (N : News h₀ L s.heap news) (h1 : DatIn news (.ref a) (rowsD l)) (h2 : DatIn news (.ref b) (rowsD l')) (hu : A.units + 64 < cLine) (h : Q (.bool (decide (l = l'))) s) : wpAny (model prog w) A (compareOp .Eq (.ref a) (.ref b)) Q E s :=
  eqList N h1 h2 (rows_ok _) (rows_ok _) hu (by rw [decide_eq_true_eq]; exact rows_iff.symm) h
theorem neRows (N : News h₀ L s.heap news) (h1 : DatIn news (.ref a) (rowsD l)) (h2 : DatIn news (.ref b) (rowsD l')) (hu : A.units + 64 < cLine) (h : Q (.bool (!decide (l = l'))) s) : wpAny (model prog w) A (compareOp .NotEq (.ref a) (.ref b)) Q E s :=
  neList N h1 h2 (rows_ok _) (rows_ok _) hu (by rw [decide_eq_true_eq]; exact rows_iff.symm) h
end
theorem Gives.use5 {w : World} {A : Around} {f : Value} {args : List Value} {s : Shared} {P : Value → List (Addr × Obj) → Prop} {E : Value → Shared → Prop} {Q : Value → Shared → Prop}
    {h₀ : Heap} {L : Addr} {m : Str → Option Value} {o₁ o₂ o₃ o₄ o₅ : Obj} {tl : List (Addr × Obj)}
    (g : Gives w A f args s P) (F : Fr h₀ L s.heap m) (N : News h₀ L s.heap (cl5 L o₁ o₂ o₃ o₄ o₅ tl))
    (h : ∀ h' tk v led, P v led → Fr h₀ L h' m → News h₀ L h' (cl5 L o₁ o₂ o₃ o₄ o₅ (led ++ tl)) → Off5 L led → Q v { s with heap := h', toks := tk }) :
    wpAny (model PG w) A (call f args) Q E s := by
  refine g.use F N fun h' tk v led hp F' N' st fr => h h' tk v led hp F' (fun p hq => N' p ?_) (fun p hq => ?_)
  · simp only [List.mem_cons, List.mem_append] at hq ⊢; grind
  · have q5 := (N (L + 1 + 1 + 1 + 1 + 1, o₅) (by simp)).1
    have q4 := (N (L + 1 + 1 + 1 + 1, o₄) (by simp)).1
    have q3 := (N (L + 1 + 1 + 1, o₃) (by simp)).1
    have q2 := (N (L + 1 + 1, o₂) (by simp)).1
    have q1 := (N (L + 1, o₁) (by simp)).1
    have n := fr p hq
    exact ⟨fresh_size n.1 n.2 _ _ q5, fresh_size n.1 n.2 _ _ q4, fresh_size n.1 n.2 _ _ q3, fresh_size n.1 n.2 _ _ q2, fresh_size n.1 n.2 _ _ q1⟩
theorem wsNews {h₀ h : Heap} {L : Addr} {news : List (Addr × Obj)} {x : Addr} {σ : Wst} (N : News h₀ L h news) (W : WsAt (fun a o => (a, o) ∈ news) x σ) : WsH h x σ := W.mono fun _ _ hm => N.get hm
theorem WsAt.inst {tl : List (Addr × Obj)} {x : Addr} {σ : Wst} : WsAt (fun a o => (a, o) ∈ tl) x σ → ∃ P : WsAll, (x, instObj 76 P.dx) ∈ tl ∧ (P.dx, P.dict σ) ∈ tl := fun ⟨P, a, b, _⟩ => ⟨P, a, b⟩
theorem wsSub {h₀ h : Heap} {L : Addr} {tl news : List (Addr × Obj)} {x : Addr} {σ : Wst} (N : News h₀ L h news) (W : WsAt (fun a o => (a, o) ∈ tl) x σ) (sub : ∀ p ∈ tl, p ∈ news) : WsH h x σ := W.mono fun _ _ hm => N.get (sub _ hm)
theorem datRef {led : List (Addr × Obj)} {v : Value} {ds : List Dat} (h : DatIn led v (.list ds)) : ∃ a, v = .ref a := by
  cases h with
  | list _ _ => exact ⟨_, rfl⟩
section
variable {prog : Program} {w : World} {A : Around} {E : Value → Shared → Prop} {s : Shared} {h₀ : Heap} {L a b : Addr} {n₁ n₂ news : List (Addr × Obj)} {l l' : List Row} {Q : Value → Shared → Prop}
theorem neSame (N : News h₀ L s.heap news) (h1 : DatIn n₁ (.ref a) (rowsD l)) (s1 : ∀ p ∈ n₁, p ∈ news) (h2 : DatIn n₂ (.ref b) (rowsD l)) (s2 : ∀ p ∈ n₂, p ∈ news) (hu : A.units + 64 < cLine) (h : Q (.bool false) s) : wpAny (model prog w) A (compareOp .NotEq (.ref a) (.ref b)) Q E s :=
  neRows N (h1.mono s1) (h2.mono s2) hu (by simpa using h)
theorem eqNil {k : Nat} (N : News h₀ L s.heap news) (h1 : DatIn n₁ (.ref a) (rowsD l)) (s1 : ∀ p ∈ n₁, p ∈ news) (h2 : (b, W.listOf #[] k) ∈ news) (hu : A.units + 64 < cLine) (h : Q (.bool (decide (l = []))) s) : wpAny (model prog w) A (compareOp .Eq (.ref a) (.ref b)) Q E s :=
  eqRows (l' := []) N (h1.mono s1) (.list (vs := []) (n := k) h2 .nil) hu h
end
theorem equalW {w : World} {d u : Nat} {fr : Option (List Env)} {g : Option (List Code)} {s : Shared} {x y : Addr} {vs ws : List Nat} {a b : Nat} (W : WsH s.heap x (st vs a)) (V : WsH s.heap y (st ws b)) (G : Gd w s.heap) (hroom : d < 890) (hu : u < 9000) (hv : ∀ v ∈ vs, v ≤ 9) (hw : ∀ v ∈ ws, v ≤ 9) :
    Gives w ⟨none, d, fr, g, u⟩ (.ref 52) [.ref x, .ref y] s (fun v _ => v = .bool (decide (unlike (table (st vs a) (st ws b) (reach (st vs a) (st ws b)).toNat) = []))) := by
  have := equalC W V G hroom hu (fr := fr) (g := g)
  rw [L_equal hv hw] at this
  exact this
theorem lessW {w : World} {d u : Nat} {fr : Option (List Env)} {g : Option (List Code)} {s : Shared} {x y : Addr} {vs ws : List Nat} {a b : Nat} (W : WsH s.heap x (st vs a)) (V : WsH s.heap y (st ws b)) (G : Gd w s.heap) (hroom : d < 880) (hu : u < 9000) (hv : ∀ v ∈ vs, v ≤ 9) (hw : ∀ v ∈ ws, v ≤ 9) (ha : a ≤ 1000) (hb : b ≤ 1000) :
    Gives w ⟨none, d, fr, g, u⟩ (.ref 66) [.ref x, .ref y] s (fun v _ => v = .bool (decide (above (table (st vs a) (st ws b) (reach (st vs a) (st ws b)).toNat) = []))) := by
  have l1 := L_len hv a
  have l2 := L_len hw b
  have := lessC W V G hroom hu (fr := fr) (g := g) (by omega) (by rw [L_b]; omega) (by omega) (by rw [L_b]; omega)
  rw [L_less hv hw] at this
  exact this
theorem lessW' {w : World} {d u : Nat} {fr : Option (List Env)} {g : Option (List Code)} {s : Shared} {x y : Addr} {vs ws : List Nat} {a b : Nat} (W : WsH s.heap x (st vs a)) (V : WsH s.heap y (st ws b)) (G : Gd w s.heap) (hroom : d < 880) (hu : u < 9000) (hv : ∀ v ∈ vs, v ≤ 9) (hw : ∀ v ∈ ws, v ≤ 9) (ha : a ≤ 1000) (hb : b ≤ 1000) :
    Gives w ⟨none, d, fr, g, u⟩ (.ref 66) [.ref y, .ref x] s (fun v _ => v = .bool (decide (below (table (st vs a) (st ws b) (reach (st vs a) (st ws b)).toNat) = []))) := by
  have l1 := L_len hv a
  have l2 := L_len hw b
  have := lessC V W G hroom hu (fr := fr) (g := g) (by omega) (by rw [L_b]; omega) (by omega) (by rw [L_b]; omega)
  rw [L_less' hv hw] at this
  exact this
theorem witnessW {w : World} {d u : Nat} {fr : Option (List Env)} {g : Option (List Code)} {s : Shared} {x y : Addr} {vs ws : List Nat} {a b : Nat} (W : WsH s.heap x (st vs a)) (V : WsH s.heap y (st ws b)) (G : Gd w s.heap) (hroom : d < 880) (hu : u < 9000) (hv : ∀ v ∈ vs, v ≤ 9) (hw : ∀ v ∈ ws, v ≤ 9) (ha : a ≤ 1000) (hb : b ≤ 1000) :
    Gives w ⟨none, d, fr, g, u⟩ (.ref 59) [.ref x, .ref y] s (fun v led => DatIn led v (rowsD (unlike (table (st vs a) (st ws b) (reach (st vs a) (st ws b)).toNat))) ∧ Calm led) := by
  have l1 := L_len hv a
  have l2 := L_len hw b
  exact witness W V G hroom hu (by omega) (by rw [L_b]; omega) (by omega) (by rw [L_b]; omega)
theorem witnessLW {w : World} {d u : Nat} {fr : Option (List Env)} {g : Option (List Code)} {s : Shared} {x y : Addr} {vs ws : List Nat} {a b : Nat} (W : WsH s.heap x (st vs a)) (V : WsH s.heap y (st ws b)) (G : Gd w s.heap) (hroom : d < 880) (hu : u < 9000) (hv : ∀ v ∈ vs, v ≤ 9) (hw : ∀ v ∈ ws, v ≤ 9) (ha : a ≤ 1000) (hb : b ≤ 1000) :
    Gives w ⟨none, d, fr, g, u⟩ (.ref 73) [.ref x, .ref y] s (fun v led => DatIn led v (rowsD (above (table (st vs a) (st ws b) (reach (st vs a) (st ws b)).toNat))) ∧ Calm led) := by
  have l1 := L_len hv a
  have l2 := L_len hw b
  exact witnessL W V G hroom hu (by omega) (by rw [L_b]; omega) (by omega) (by rw [L_b]; omega)
/-- a sign many times -/
def rep (c : Nat) (n : Int) : Str := ⟨(List.replicate n.toNat c).toArray⟩
abbrev UL (F S : Str) (a : Nat) : List Row := unlike (table (st (vals F) a) (st (vals S) a) (reach (st (vals F) a) (st (vals S) a)).toNat)
def wt (l : List SRow) : Nat := (l.map fun r => r.2.natAbs).sum
theorem wt_cons (r : SRow) (l : List SRow) : wt (r :: l) = r.2.natAbs + wt l := by simp [wt]
theorem Word.rep {c : Nat} (h : Sign c) (n : Int) : Word (rep c n) := by
  intro x hx
  simp only [Mine.rep, List.mem_replicate] at hx
  rw [hx.2]; exact h
theorem rep_len (c : Nat) (n : Int) : (rep c n).length = n.toNat := by simp [rep, Str.length]
theorem vals_len (x : Str) : (vals x).length = x.length := by simp [vals, Str.length]
theorem T_nil {F S : Str} {a : Nat} (_hF : Word F) (_hS : Word S) (h : UL F S a = []) : dueAll F S = [] := by
  have hc := (equal_core (vs := vals F) (ws := vals S) (a := a) (b := a)).mpr h
  rw [L_cs, L_cs, csOf_eq] at hc
  have hl := (List.perm_iff_count.mpr hc.1).length_eq
  rw [vals_len, vals_len] at hl
  unfold dueAll due0
  rw [if_neg (by omega), List.nil_append]
  unfold dueOf
  rw [List.filterMap_eq_nil_iff]
  intro v _
  rw [if_neg]
  unfold cntOf
  rw [hc.1 v]
  omega
theorem vals_app (x y : Str) : vals (x ++ y) = vals x ++ vals y := by simp [vals, Str.cps_append]
theorem vals_rep (c : Nat) (n : Int) : vals (rep c n) = List.replicate n.toNat (c % 32) := by simp [vals, rep]
theorem cnt_app (x y : Str) (v : Nat) : cntOf (x ++ y) v = cntOf x v + cntOf y v := by
  simp [cntOf, vals_app, List.count_append]
theorem cnt_rep (c v : Nat) (n : Int) : cntOf (rep c n) v = if c % 32 = v then (n.toNat : Int) else 0 := by
  simp only [cntOf, vals_rep, List.count_replicate]
  by_cases h : c % 32 = v
  · simp [h]
  · have : (c % 32 == v) = false := by simpa using h
    simp [h, this]
theorem dueOf_congr {F S F' S' : Str} {l : List Nat} (h : ∀ v ∈ l, cntOf S' v - cntOf F' v = cntOf S v - cntOf F v) : dueOf F' S' l = dueOf F S l := by
  induction l with
  | nil => rfl
  | cons v l ih =>
    have := h v List.mem_cons_self
    simp only [dueOf, List.filterMap_cons, this]
    have ih' := ih fun x hx => h x (List.mem_cons_of_mem _ hx)
    simp only [dueOf] at ih'
    rw [ih']
theorem dueOf_zero {F S : Str} {l : List Nat} (h : ∀ v ∈ l, cntOf S v - cntOf F v = 0) : dueOf F S l = [] := by
  unfold dueOf
  rw [List.filterMap_eq_nil_iff]
  intro v hv
  rw [if_neg (by rw [h v hv]; omega)]
theorem dueOf_append (F S : Str) (l l' : List Nat) : dueOf F S (l ++ l') = dueOf F S l ++ dueOf F S l' := by simp [dueOf, List.filterMap_append]
theorem due0_nil {F S : Str} (h : S.length = F.length) : due0 F S = [] := by
  unfold due0
  rw [if_neg (by omega)]
theorem letters_cut {v : Nat} (h1 : 1 ≤ v) (h9 : v ≤ 9) : ∃ l1 l2, letters = l1 ++ v :: l2 ∧ (∀ i ∈ l1, v < i) ∧ (∀ i ∈ l2, 1 ≤ i ∧ i < v) := by
  have hcs := nineN h1 h9
  rcases hcs with rfl | rfl | rfl | rfl | rfl | rfl | rfl | rfl | rfl
  · exact ⟨[9, 8, 7, 6, 5, 4, 3, 2], [], rfl, by decide, by decide⟩
  · exact ⟨[9, 8, 7, 6, 5, 4, 3], [1], rfl, by decide, by decide⟩
  · exact ⟨[9, 8, 7, 6, 5, 4], [2, 1], rfl, by decide, by decide⟩
  · exact ⟨[9, 8, 7, 6, 5], [4 - 1, 2, 1], rfl, by decide, by decide⟩
  · exact ⟨[9, 8, 7, 6], [4, 3, 2, 1], rfl, by decide, by decide⟩
  · exact ⟨[9, 8, 7], [5, 4, 3, 2, 1], rfl, by decide, by decide⟩
  · exact ⟨[9, 8], [6, 5, 4, 3, 2, 1], rfl, by decide, by decide⟩
  · exact ⟨[9], [7, 6, 5, 4, 3, 2, 1], rfl, by decide, by decide⟩
  · exact ⟨[], [8, 7, 6, 5, 4, 3, 2, 1], rfl, by decide, by decide⟩
theorem unlike_cut {σ τ : Wst} {v : Nat} : ∀ n, v ≤ n → (∀ i, v ≤ i → i < n → lvl σ ((i + 1 : Nat) : Int) = lvl τ ((i + 1 : Nat) : Int)) → unlike (table σ τ n) = unlike (table σ τ v) := by
  intro n
  induction n with
  | zero => intro h _; rw [show v = 0 by omega]
  | succ n ih =>
    intro h hi
    by_cases q : v = n + 1
    · rw [q]
    · rw [table_succ, unlike_neg (by rw [rowLvl]; exact hi n (by omega) (by omega))]
      exact ih (by omega) fun i a b => hi i a (by omega)
theorem unlike_last {σ τ : Wst} {v : Nat} (h1 : 1 ≤ v) (h : lvl σ (v : Int) ≠ lvl τ (v : Int)) : unlike (table σ τ v) = unlike (table σ τ (v - 1)) ++ [((v : Int), lvl σ v, lvl τ v)] := by
  obtain ⟨k, rfl⟩ : ∃ k, v = k + 1 := ⟨v - 1, by omega⟩
  rw [table_succ, unlike_pos (by rw [rowLvl]; exact h)]
  simp only [Nat.add_sub_cancel, rowAt, rowLvl]
/-- a largest place where two counts differ -/
theorem top_diff {f g : Nat → Nat} {n : Nat} (hn : ∀ i, n ≤ i → f i = g i) : (∀ i, 1 ≤ i → f i = g i) ∨ ∃ v, 1 ≤ v ∧ v < n ∧ f v ≠ g v ∧ ∀ i, v < i → f i = g i := by
  induction n with
  | zero => exact .inl fun i _ => hn i (by omega)
  | succ n ih =>
    by_cases q : f n = g n
    · rcases ih (fun i hi => by
        by_cases e : i = n
        · rw [e]; exact q
        · exact hn i (by omega)) with h | ⟨v, a, b, c, d⟩
      · exact .inl h
      · exact .inr ⟨v, a, by omega, c, d⟩
    · by_cases z : n = 0
      · exact .inl fun i hi => hn i (by omega)
      · exact .inr ⟨n, by omega, by omega, q, fun i hi => hn i (by omega)⟩
theorem fdiv_mul (n : Nat) (h : 1 ≤ n) (d : Int) : Int.fdiv ((n : Int) * d) n = d := by
  rw [Int.fdiv_eq_ediv_of_nonneg _ (by omega)]
  exact Int.mul_ediv_cancel_left d (by omega)
theorem T_last {F S : Str} {a : Nat} (hF : Word F) (hS : Word S) (ha : a ≤ 7) (h : UL F S a ≠ []) : ∃ pre size l r, UL F S a = pre ++ [(size, l, r)] ∧ 1 ≤ size ∧ size ≤ 1000 ∧
    ((max (max (((st (vals F) a).cs.length : Int) - 1) (st (vals F) a).b) (max (((st (vals S) a).cs.length : Int) - 1) (st (vals S) a).b) < size ∧
        dueAll F S = (Str.ofString "@", (r - l).fdiv size) :: dueAll (F ++ rep 64 ((r - l).fdiv size)) (S ++ rep 64 (-((r - l).fdiv size)))) ∨
     (size ≤ max (max (((st (vals F) a).cs.length : Int) - 1) (st (vals F) a).b) (max (((st (vals S) a).cs.length : Int) - 1) (st (vals S) a).b) ∧ size ≤ 9 ∧
        dueAll F S = (⟨#[94, 64 + size.toNat]⟩, (r - l).fdiv size) :: dueAll (F ++ rep (64 + size.toNat) ((r - l).fdiv size) ++ rep 64 (-((r - l).fdiv size))) (S ++ rep (64 + size.toNat) (-((r - l).fdiv size)) ++ rep 64 ((r - l).fdiv size)))) := by
  have hv9 := vals_le hF
  have hw9 := vals_le hS
  obtain ⟨r1, r2, r3, r4⟩ := reach_v (vs := vals F) (ws := vals S) (a := a) (b := a)
  have hr := L_reach_le hv9 hw9 ha ha
  have hmx : max (max (((st (vals F) a).cs.length : Int) - 1) (st (vals F) a).b) (max (((st (vals S) a).cs.length : Int) - 1) (st (vals S) a).b) = reach (st (vals F) a) (st (vals S) a) - 1 := by
    unfold reach mx; omega
  rw [hmx]
  have hnI : reach (st (vals F) a) (st (vals S) a) = ((reach (st (vals F) a) (st (vals S) a)).toNat : Int) := (Int.toNat_of_nonneg (Int.le_trans (by decide) hr.1)).symm
  have hUL : UL F S a = unlike (table (st (vals F) a) (st (vals S) a) (reach (st (vals F) a) (st (vals S) a)).toNat) := rfl
  rw [hUL] at h ⊢
  rw [hnI] at hr ⊢
  rw [Int.toNat_natCast]
  generalize (reach (st (vals F) a) (st (vals S) a)).toNat = n at *
  clear hnI hmx hUL
  have hlF := vals_len F
  have hlS := vals_len S
  by_cases hlen : S.length = F.length
  · -- lengths agree: the largest letter that differs
    have hl' : (vals F).length = (vals S).length := by omega
    rcases top_diff (f := fun i => (vals F).count i) (g := fun i => (vals S).count i) (n := n) (fun i hi => by
      rw [List.count_eq_zero_of_not_mem fun hm => by have := r1 i hm; omega, List.count_eq_zero_of_not_mem fun hm => by have := r2 i hm; omega]) with hall | ⟨v, hv1, hvn, hne, hup⟩
    · exfalso
      apply h
      rw [unlike_nil]
      intro i _
      rw [lvl_eq _ _ _ (by omega), lvl_eq _ _ _ (by omega)]
      have := qs_key (vs := vals F) (ws := vals S) (ts := i + 1) (by omega) (fun j hj => hall j (by omega))
      rw [hall (i + 1) (by omega)] at this
      rw [show qs (vals F) (i + 1) = qs (vals S) (i + 1) by omega, hl']
    · have hv9' : v ≤ 9 := by
        apply Nat.le_of_not_lt
        intro q
        apply hne
        rw [List.count_eq_zero_of_not_mem fun hm => by have := hv9 v hm; omega, List.count_eq_zero_of_not_mem fun hm => by have := hw9 v hm; omega]
      have key := qs_key (vs := vals F) (ws := vals S) (ts := v) hv1 hup
      have hd : lvl (st (vals S) a) (v : Int) - lvl (st (vals F) a) (v : Int) = (v : Int) * (cntOf S v - cntOf F v) := by
        rw [lvl_eq _ _ _ hv1, lvl_eq _ _ _ hv1, hl']
        unfold cntOf
        rw [← key]
        push_cast
        rw [Int.mul_sub, Int.mul_add, Int.mul_add]
        omega
      have hdne : cntOf S v - cntOf F v ≠ 0 := by unfold cntOf; omega
      have hlne : lvl (st (vals F) a) (v : Int) ≠ lvl (st (vals S) a) (v : Int) := by
        intro e
        rw [e, Int.sub_self] at hd
        rcases Int.mul_eq_zero.mp hd.symm with q | q
        · omega
        · exact hdne q
      have hcut := unlike_cut (σ := st (vals F) a) (τ := st (vals S) a) (v := v) n (by omega) (fun i hi _ => by
        rw [lvl_eq _ _ _ (by omega), lvl_eq _ _ _ (by omega)]
        have := qs_key (vs := vals F) (ws := vals S) (ts := i + 1) (by omega) (fun j hj => hup j (by omega))
        rw [hup (i + 1) (by omega)] at this
        rw [show qs (vals F) (i + 1) = qs (vals S) (i + 1) by omega, hl'])
      rw [hcut, unlike_last hv1 hlne]
      refine ⟨_, _, _, _, rfl, by omega, by omega, .inr ⟨by omega, by omega, ?_⟩⟩
      rw [hd, fdiv_mul v hv1, Int.toNat_natCast]
      generalize hdd : cntOf S v - cntOf F v = dl at *
      obtain ⟨l1, l2, hlet, hl1, hl2⟩ := letters_cut hv1 hv9'
      have hm1 : (64 + v) % 32 = v := by omega
      have hc1 : ∀ i, cntOf (F ++ rep (64 + v) dl ++ rep 64 (-dl)) i = cntOf F i + (if v = i then (dl.toNat : Int) else 0) + (if 0 = i then ((-dl).toNat : Int) else 0) := fun i => by
        rw [cnt_app, cnt_app, cnt_rep, cnt_rep, hm1]
      have hc2 : ∀ i, cntOf (S ++ rep (64 + v) (-dl) ++ rep 64 dl) i = cntOf S i + (if v = i then ((-dl).toNat : Int) else 0) + (if 0 = i then (dl.toNat : Int) else 0) := fun i => by
        rw [cnt_app, cnt_app, cnt_rep, cnt_rep, hm1]
      have z1 : ∀ i ∈ l1, cntOf S i - cntOf F i = 0 := fun i hi => by unfold cntOf; rw [hup i (hl1 i hi)]; omega
      have e1 : dueOf F S letters = (⟨#[94, 64 + v]⟩, dl) :: dueOf F S l2 := by
        rw [hlet, dueOf_append, dueOf_zero z1, List.nil_append]
        simp only [dueOf, List.filterMap_cons, hdd]
        rw [if_pos hdne]
      have e2 : dueOf (F ++ rep (64 + v) dl ++ rep 64 (-dl)) (S ++ rep (64 + v) (-dl) ++ rep 64 dl) letters = dueOf F S l2 := by
        rw [hlet, dueOf_append, dueOf_zero (l := l1) (fun i hi => by
          have h1 := hl1 i hi
          rw [hc1, hc2, if_neg (by omega), if_neg (by omega), if_neg (by omega), if_neg (by omega)]
          have := z1 i hi; omega), List.nil_append]
        have hz : cntOf (S ++ rep (64 + v) (-dl) ++ rep 64 dl) v - cntOf (F ++ rep (64 + v) dl ++ rep 64 (-dl)) v = 0 := by
          rw [hc1, hc2, if_pos rfl, if_pos rfl, if_neg (by omega), if_neg (by omega)]; omega
        have : dueOf (F ++ rep (64 + v) dl ++ rep 64 (-dl)) (S ++ rep (64 + v) (-dl) ++ rep 64 dl) (v :: l2) = dueOf (F ++ rep (64 + v) dl ++ rep 64 (-dl)) (S ++ rep (64 + v) (-dl) ++ rep 64 dl) l2 := by
          simp only [dueOf, List.filterMap_cons, hz]
          rw [if_neg (by omega)]
        rw [this]
        refine dueOf_congr fun i hi => ?_
        have h2 := hl2 i hi
        rw [hc1, hc2, if_neg (by omega), if_neg (by omega), if_neg (by omega), if_neg (by omega)]
        omega
      unfold dueAll
      rw [due0_nil hlen, due0_nil (by rw [Str.length_append, Str.length_append, Str.length_append, Str.length_append, rep_len, rep_len, rep_len, rep_len]; omega), List.nil_append, List.nil_append, e1, e2]
  · -- lengths differ: the last size tells
    have hn1 : 1 ≤ n := by omega
    have hd : lvl (st (vals S) a) (n : Int) - lvl (st (vals F) a) (n : Int) = (n : Int) * ((S.length : Int) - F.length) := by
      rw [lvl_eq _ _ _ hn1, lvl_eq _ _ _ hn1, qs_big r1, qs_big r2, hlF, hlS, Nat.zero_add, Nat.zero_add]
      push_cast
      rw [Int.mul_sub]
      omega
    have hlne : lvl (st (vals F) a) (n : Int) ≠ lvl (st (vals S) a) (n : Int) := by
      intro e
      rw [e, Int.sub_self] at hd
      rcases Int.mul_eq_zero.mp hd.symm with q | q
      · omega
      · omega
    rw [unlike_last hn1 hlne]
    refine ⟨_, _, _, _, rfl, by omega, by omega, .inl ⟨by omega, ?_⟩⟩
    rw [hd, fdiv_mul n hn1]
    unfold dueAll
    have e0 : due0 F S = [(Str.ofString "@", (S.length : Int) - (F.length : Int))] := by
      unfold due0
      rw [if_pos (by omega)]
    rw [e0, due0_nil (by rw [Str.length_append, Str.length_append, rep_len, rep_len]; omega), List.nil_append, List.singleton_append]
    congr 1
    symm
    refine dueOf_congr fun i hi => ?_
    have hi1 : 1 ≤ i := (by decide : ∀ i ∈ letters, 1 ≤ i) i hi
    rw [cnt_app, cnt_app, cnt_rep, cnt_rep, if_neg (by omega), if_neg (by omega)]
    omega
theorem T_len (A B : Str) : (dueAll A B).length ≤ 10 := by
  unfold dueAll
  rw [List.length_append]
  have h1 : (due0 A B).length ≤ 1 := by
    unfold due0
    split <;> simp
  have h2 : (dueOf A B letters).length ≤ 9 := by
    unfold dueOf
    exact Nat.le_trans (List.length_filterMap_le _ _) (by decide)
  omega
theorem T_wt {A B : Str} (lA : A.length ≤ 4) (lB : B.length ≤ 6) : wt (dueAll A B) ≤ 100 := by
  have hrow : ∀ r ∈ dueAll A B, r.2.natAbs ≤ 10 := by
    intro r hr
    rcases List.mem_append.mp hr with h | h
    · unfold due0 at h
      split at h
      · rw [List.mem_singleton.mp h]; dsimp only; omega
      · cases h
    · simp only [dueOf, List.mem_filterMap] at h
      obtain ⟨v, _, e⟩ := h
      split at e
      · cases e
        have c1 : (vals A).count v ≤ (vals A).length := List.count_le_length
        have c2 : (vals B).count v ≤ (vals B).length := List.count_le_length
        rw [vals_len] at c1 c2
        unfold cntOf
        dsimp only
        omega
      · cases e
  have hsum : ∀ l : List SRow, (∀ r ∈ l, r.2.natAbs ≤ 10) → wt l ≤ 10 * l.length := by
    intro l
    induction l with
    | nil => intro _; simp [wt]
    | cons r l ih =>
      intro hl
      rw [wt_cons, List.length_cons]
      have := ih fun x hx => hl x (List.mem_cons_of_mem _ hx)
      have := hl r List.mem_cons_self
      omega
  have := hsum _ hrow
  have := T_len A B
  omega
theorem mulOne (c : Nat) (n : Int) : Txt.mul ⟨#[c]⟩ n = rep c n := by
  unfold Txt.mul rep
  have fold : ∀ (n : Nat) (acc : Array Nat), (List.replicate n #[c]).foldl (· ++ ·) acc = acc ++ (List.replicate n c).toArray := by
    intro n
    induction n with
    | zero => intro acc; simp
    | succ n ih => intro acc; rw [List.replicate_succ, List.foldl_cons, ih, List.replicate_succ]; exact Array.toList_inj.mp (by simp)
  split
  · rename_i h
    have : n.toNat = 0 := by omega
    rw [this]; rfl
  · split
    · rename_i h1 h2
      have : n = 1 := by
        simp at h2
        rcases h2 with h2 | h2
        · exact h2
        · cases h2
      subst this; rfl
    · rw [fold]; simp
theorem mulAt (n : Int) : Txt.mul (Str.ofString "@") n = rep 64 n := by
  rw [show Str.ofString "@" = ⟨#[64]⟩ by decide]; exact mulOne 64 n
theorem Word.app {x y : Str} (hx : Word x) (hy : Word y) : Word (x ++ y) := by
  intro c hc
  rw [Str.cps_append, Array.toList_append, List.mem_append] at hc
  exact hc.elim (hx c) (hy c)
theorem Gives.use6 {w : World} {A : Around} {f : Value} {args : List Value} {s : Shared} {P : Value → List (Addr × Obj) → Prop} {E : Value → Shared → Prop} {Q : Value → Shared → Prop}
    {h₀ : Heap} {L D : Addr} {m : Str → Option Value} {oD o₁ o₂ o₃ o₄ o₅ : Obj} {tl : List (Addr × Obj)}
    (g : Gives w A f args s P) (F : Fr h₀ L s.heap m) (N : News h₀ L s.heap ((D, oD) :: cl5 L o₁ o₂ o₃ o₄ o₅ tl))
    (h : ∀ h' tk v led, P v led → Fr h₀ L h' m → News h₀ L h' ((D, oD) :: cl5 L o₁ o₂ o₃ o₄ o₅ (led ++ tl)) → Off5 L led → (∀ p ∈ led, p.1 ≠ L + 1 + 1) → (∀ p ∈ led, p.1 ≠ L + 1 + 1 + 1) → (∀ p ∈ led, p.1 ≠ D) → Q v { s with heap := h', toks := tk }) :
    wpAny (model PG w) A (call f args) Q E s := by
  refine g.use F N fun h' tk v led hp F' N' st fr => ?_
  have off : Off5 L led := fun p hq => by
    have q5 := (N (L + 1 + 1 + 1 + 1 + 1, o₅) (by simp)).1
    have q4 := (N (L + 1 + 1 + 1 + 1, o₄) (by simp)).1
    have q3 := (N (L + 1 + 1 + 1, o₃) (by simp)).1
    have q2 := (N (L + 1 + 1, o₂) (by simp)).1
    have q1 := (N (L + 1, o₁) (by simp)).1
    have n := fr p hq
    exact ⟨fresh_size n.1 n.2 _ _ q5, fresh_size n.1 n.2 _ _ q4, fresh_size n.1 n.2 _ _ q3, fresh_size n.1 n.2 _ _ q2, fresh_size n.1 n.2 _ _ q1⟩
  refine h h' tk v led hp F' (fun p hq => N' p ?_) off (fun p hq => (off p hq).2.2.2.1) (fun p hq => (off p hq).2.2.1) (fun p hq => ?_)
  · simp only [List.mem_cons, List.mem_append] at hq ⊢; grind
  · have qD := (N (D, oD) (by simp)).1
    have n := fr p hq
    exact fresh_size n.1 n.2 _ _ qD
theorem allLt_lt {D : Nat} : ∀ {l : List (Addr × Obj)}, AllLt D l → ∀ {p : Addr × Obj}, p ∈ l → @LT.lt Nat _ p.1 D
  | [], _, _, hp => nomatch hp
  | q :: r, h, p, hp => by
    rcases List.mem_cons.mp hp with e | hp
    · rw [e]; exact h.1
    · exact allLt_lt h.2 hp
theorem rot6 {L D : Addr} {oD o₁ o₂ o₃ o₄ o₅ : Obj} {tl : List (Addr × Obj)} {x : Addr × Obj} {h₀ h : Heap} {L' : Addr} (N : News h₀ L' h (x :: (D, oD) :: cl5 L o₁ o₂ o₃ o₄ o₅ tl)) : News h₀ L' h ((D, oD) :: cl5 L o₁ o₂ o₃ o₄ o₅ (x :: tl)) := fun p hp => N p (by
  simp only [List.mem_cons] at hp ⊢; grind)
theorem rot6b {L D : Addr} {oD o₁ o₂ o₃ o₄ o₅ : Obj} {tl : List (Addr × Obj)} {x y : Addr × Obj} {h₀ h : Heap} {L' : Addr} (N : News h₀ L' h (x :: y :: (D, oD) :: cl5 L o₁ o₂ o₃ o₄ o₅ tl)) : News h₀ L' h (x :: (D, oD) :: cl5 L o₁ o₂ o₃ o₄ o₅ (y :: tl)) := fun p hp => N p (by
  simp only [List.mem_cons] at hp ⊢; grind)
theorem isNotSame {prog : Program} {w : World} {A : Around} {E : Value → Shared → Prop} {s : Shared} {Q : Value → Shared → Prop} {p q : Bool} (e : p = q) (h : Q (.bool false) s) : wpAny (model prog w) A (compareOp .IsNot (.bool p) (.bool q)) Q E s := by
  subst e
  exact wpAny_isNot_self (by cases p <;> rfl) h
theorem lastRow {prog : Program} {w : World} {A : Around} {E : Value → Shared → Prop} {s : Shared} {Q : Value → Shared → Prop} {h₀ : Heap} {L a : Addr} {news n₁ : List (Addr × Obj)} {U pre : List Row} {size l r : Int} {value slice : Expr} {u : Tok}
    (N : News h₀ L s.heap news) (hD : DatIn n₁ (.ref a) (rowsD U)) (sub : ∀ p ∈ n₁, p ∈ news) (hU : U = pre ++ [(size, l, r)])
    (h : ∀ T n t1 t2 t3, (T, ({ cls := .type "tuple", data := .seq [.int size t1, .int l t2, .int r t3].toArray n } : Obj)) ∈ n₁ → Q (.ref T) s)
    (hs : subscripted slice false (.ref a) (.int (-1) u) = operate [.ref a, .int (-1) u] (getItem (.ref a) (.int (-1) u)) := by with_unfolding_all rfl) (hg : ∀ r, letTemporaryGo value (.ref a) r = pure () := by intro _; with_unfolding_all rfl) :
    wpAny (model prog w) A (subscriptTail value slice (.ref a) (.int (-1) u)) Q E s := by
  subst hU
  cases hD with
  | list hm hd =>
    rename_i vs k
    have hlen : vs.length = pre.length + 1 := by have := hd.length; simpa using this
    have hl : s.heap.IsList a vs.toArray := ⟨_, N.get (sub _ hm), rfl, _, rfl⟩
    have hi : pre.length < vs.length := by omega
    obtain ⟨q, T, n, t1, t2, t3, hq, hv, hmem⟩ := rowGet hd (i := pre.length) (v := vs[pre.length]) (by simp [hi])
    simp only [List.getElem?_concat_length, Option.some.injEq] at hq
    subst hq
    have hx : vs[(-1 + (vs.length : Int)).toNat]? = some (.ref T) := by
      rw [show (-1 + (vs.length : Int)).toNat = pre.length by omega, ← hv]; simp [hi]
    exact subscriptTail_builtin hl.typeIs slot_list_getitem.lookup (wpAny_getItem_list_neg hl (by decide) (by rw [List.size_toArray]; omega) (by decide) (by rw [List.size_toArray]; simpa using hx) (h T n t1 t2 t3 hmem)) hs hg
theorem longestW {w : World} {d u : Nat} {fr : Option (List Env)} {g : Option (List Code)} {s : Shared} {x : Addr} {vs : List Nat} {a : Nat} (W : WsH s.heap x (st vs a)) (G : Gd w s.heap) (hroom : d < 890) (hv : ∀ v ∈ vs, v ≤ 9) :
    Gives w ⟨none, d, fr, g, u⟩ (.ref 38) [.ref x] s (fun v _ => ∃ t, v = .int (max (((st vs a).cs.length : Int) - 1) (st vs a).b) t) :=
  longest W G hroom (by have := L_len hv a; omega)
theorem turnEnd {h₀ : Heap} {L : Addr} {own : List (Addr × Obj)} {Jn : (Str → Option Value) → List (Addr × Obj) → Prop} {s : Shared} {Q : Flow → Shared → Prop} {h' : Heap} {tk : Nat} {m₂ : Str → Option Value} {T D : Addr} {oT : Obj} {us : List Value} {k : Nat} {X Y Z P : Addr × Obj} {l1 l2 l3 led : List (Addr × Obj)} {o₁ o₂ o₃ o₄ o₅ : Obj} {F' S' : Str} {a b : Nat}
    (F : Fr h₀ L h' m₂) (N : News h₀ L h' (X :: (T, oT) :: Y :: Z :: (D, W.listOf (us.toArray.push (.ref T)) (k + 1)) :: cl5 L o₁ o₂ o₃ o₄ o₅ (l1 ++ P :: (l2 ++ (l3 ++ (led ++ own))))))
    (C : Cells5 F' S' a b o₁ o₂ o₃ o₄ o₅) (hcl : Calm led) (hT : ∀ vs, oT.data ≠ .fields vs)
    (hj : Jn m₂ ((D, W.listOf (us ++ [Value.ref T]).toArray (k + 1)) :: cl5 L o₁ o₂ o₃ o₄ o₅ ((T, oT) :: led))) : TurnQ h₀ L own Jn s Q .next { s with heap := h', toks := tk } := by
  have e : us.toArray.push (.ref T) = (us ++ [Value.ref T]).toArray := by simp
  rw [e] at N
  refine TurnQ.next _ F N (fun p hp => ?_) (fun p hp => ?_) (Calm.cons (by intro vs h; cases h) (C.calm (Calm.cons hT hcl))) hj
  · simp only [List.mem_cons, List.mem_append]; grind
  · simp only [List.mem_cons, List.mem_append] at hp ⊢; grind
theorem sign64 : Sign 64 := by unfold Sign; omega
theorem okS {x : Str} (h : PyData.strOk x = true) (i : Int) : kqdOk 8 (srowD (x, i)) = true := by
  simp [kqdOk, srowD, h]
theorem due_ok (A B : Str) : ∀ r ∈ dueAll A B, kqdOk 8 (srowD r) = true := by
  intro r hr
  rcases List.mem_append.mp hr with h | h
  · unfold due0 at h
    split at h
    · rw [List.mem_singleton.mp h]; exact okS (by decide +kernel) _
    · cases h
  · simp only [dueOf, List.mem_filterMap] at h
    obtain ⟨v, hv, e⟩ := h
    split at e
    · cases e
      simp only [letters, List.mem_cons, List.not_mem_nil, or_false] at hv
      rcases hv with rfl | rfl | rfl | rfl | rfl | rfl | rfl | rfl | rfl <;> exact okS (by decide +kernel) _
    · cases e
theorem eqTold {prog : Program} {w : World} {A : Around} {E : Value → Shared → Prop} {s : Shared} {h₀ : Heap} {L a b : Addr} {n₁ n₂ news : List (Addr × Obj)} {us : List Value} {k : Nat} {l : List SRow} {X Y : Str} {Q : Value → Shared → Prop} (N : News h₀ L s.heap news)
    (hm : (a, W.listOf us.toArray k) ∈ news) (h1 : DatAll n₁ us (l.map srowD)) (s1 : ∀ p ∈ n₁, p ∈ news) (h2 : DatIn n₂ (.ref b) (.list ((dueAll X Y).map srowD))) (s2 : ∀ p ∈ n₂, p ∈ news) (e : l = dueAll X Y) (hu : A.units + 64 < cLine) (h : Q (.bool true) s) :
    wpAny (model prog w) A (compareOp .Eq (.ref a) (.ref b)) Q E s := by
  subst e
  have ok : ∀ d ∈ (dueAll X Y).map srowD, kqdOk 8 d = true := by
    intro d hd
    obtain ⟨r, hr, rfl⟩ := List.mem_map.mp hd
    exact due_ok X Y r hr
  exact eqList N (.list hm (h1.mono s1)) (h2.mono s2) ok ok hu (c := true) ⟨fun _ => rfl, fun _ => rfl⟩ h
theorem mulLetter {prog : Program} {w : World} {A : Around} {E : Value → Shared → Prop} {s : Shared} {Q : Value → Shared → Prop} {x : Str} {c : Nat} {n : Int} {t u : Tok} (e : x = ⟨#[c]⟩) (hn : n.natAbs ≤ 1000)
    (h : ∀ t' k, (rep c n).length ≤ 1000 → Q (.str (rep c n) t') { s with toks := k }) : wpAny (model prog w) A (binaryOp .Mult (.str x t) (.int n u)) Q E s := by
  subst e
  refine SB.mul (mulOk_of 16 1048576 (by simp [Str.length]) (by omega) (by omega) (by decide) (by decide)) fun t' k => ?_
  rw [mulOne]
  exact h t' k (by rw [rep_len]; omega)
theorem atOne : Str.ofString "@" = ⟨#[64]⟩ := by decide
theorem cutOne {n : Int} (h1 : 1 ≤ n) (h9 : n ≤ 9) : Txt.slice ⟨#[94, 64 + n.toNat]⟩ (some 1) none = ⟨#[64 + n.toNat]⟩ := by
  have hcs := nineI h1 h9
  rcases hcs with rfl | rfl | rfl | rfl | rfl | rfl | rfl | rfl | rfl <;> decide +kernel
-- two maps of names are one: the names by computation, the others fall through
-- objects that stood before the call
theorem prep13 : True := by
  k_with_none
  k_with "it" => (simp only [decide_eq_true_eq, beq_iff_eq, bne_iff_ne, ne_eq]; omega)
  k_with "ite" => first | refine ite_neg (by walk_at "it") ?_ | refine ite_pos (by walk_at "it") ?_
  k_with "st" => first | walk1 | (dsimp only; walk1)
  k_with "go" => repeat' ((fail_if_success (with_reducible show wpAny _ _ (pyIter _) _ _ _)); (walk_at "st"))
  k_with "for" => walk_at "real0"
  k_with "exec For Name Attribute cons nil" => (walk_at "for")
  k_with "exec For Name Call cons nil" => (walk_at "for")
  k_with "exec For Name Constant cons nil" => (walk_at "for")
  k_with "calm" => (repeat' (first | exact Calm.nil | refine Calm.cons (by intro vs h; cases h) ?_ | assumption))
  k_with "sub" => (intro p hp; (simp only [List.mem_cons, List.mem_append, List.not_mem_nil, or_false, false_or] at hp ⊢); first | assumption | grind)
  k_with "same map" => exact ov_eq (by (repeat' (first | exact List.forall_mem_nil _ | refine List.forall_mem_cons.mpr ⟨rfl, ?_⟩))) (fun _ _ => rfl)
  k_with "call builtin:len" => refine lenTup (by assumption) (by assumption) (by assumption) (by omega) ?_
  k_with "subscriptTail Name Name ref int" => (refine itemTup (by assumption) (by assumption) (by assumption) (by omega) (by omega) (by omega) ?_; intro _)
  k_with "execs cons Assign cons" => refine wpAny_execs_cons ?_
  k_with "eval ListComp" => ((rename Fr _ _ _ _ => lF'); (with_unfolding_all refine' compEval lF' ?k1 ?k2 ?k3 ?k4 ?k5 ?_; (case k1 => exact rfl); (case k2 => decide); (case k3 => exact rfl); (case k4 => decide); (case k5 => exact rfl); k_whole))
  k_with "o" => first | omega | (simp only [Around.deeper]; omega)
  k_with "g" => exact Gd.fr (by assumption) (by assumption)
  k_with "wf" => exact WsH.fr (by assumption) (by assumption)
  k_with "call ref" => (refine Gives.useT (longest (by walk_at "wf") (by walk_at "g") (by walk_at "o") (by omega)) (by k_asm) (by k_asm) ?_; intro _ _ _ _ _)
  k_with "call ref" => (refine Gives.useT (level (by walk_at "wf") (by walk_at "g") (by walk_at "o") (by omega) (by omega) (by omega)) (by k_asm) (by k_asm) ?_; intro _ _ _ _ _)
  k_with "call ref" => (refine Gives.use0 (word (by walk_at "g") (by walk_at "o") (by omega) (by omega) (by omega) (by omega)) (by k_asm) (by k_asm) ?_; intro _ _ _ hv _ _; obtain ⟨_, _, hv, _, _⟩ := hv; subst hv)
  k_with "call ref" => (refine Gives.useT (column (by walk_at "g") (by walk_at "o") (by assumption) (by omega) (by omega) (by omega)) (by k_asm) (by k_asm) ?_; intro _ _ _ _ _)
  k_with "exec Assign cons ListComp" => ((rename Fr _ _ _ _ => lF'); (with_unfolding_all refine' compAssign lF' ?k0 ?ks ?k1 ?k2 ?k3 ?k4 ?k5 ?k6 ?k7 ?_; (case k0 => exact rfl); (case ks => exact rfl); (case k1 => exact rfl); (case k2 => decide); (case k3 => exact rfl); (case k4 => decide); (case k5 => exact rfl); (case k6 => exact rfl); (case k7 => exact rfl); k_whole))
  k_with "call builtin:str.upper" => refine upperE (by assumption) (by omega) ?_
  w_top off
  trivial
theorem TurnQ.push5 {h₀ : Heap} {L : Addr} {own : List (Addr × Obj)} {Jn : (Str → Option Value) → List (Addr × Obj) → Prop} {s : Shared} {Q : Flow → Shared → Prop} {h' : Heap} {tk : Nat} {m₂ : Str → Option Value} {T D : Addr} {oT : Obj} {us : List Value} {k : Nat} {led : List (Addr × Obj)} {c₁ c₂ c₃ c₄ c₅ : Addr × Obj}
    (N : News h₀ L h' ((T, oT) :: (D, W.listOf (us.toArray.push (Value.ref T)) (k + 1)) :: c₅ :: c₄ :: c₃ :: c₂ :: c₁ :: (led ++ own))) (F : Fr h₀ L h' m₂) (hc : Calm ((D, W.listOf us.toArray k) :: c₅ :: c₄ :: c₃ :: c₂ :: c₁ :: led)) (hT : ∀ vs, oT.data ≠ .fields vs)
    (hj : Jn m₂ ((D, W.listOf (us ++ [Value.ref T]).toArray (k + 1)) :: c₅ :: c₄ :: c₃ :: c₂ :: c₁ :: (T, oT) :: led)) : TurnQ h₀ L own Jn s Q .next { s with heap := h', toks := tk } := by
  have e : us.toArray.push (.ref T) = (us ++ [Value.ref T]).toArray := by simp
  rw [e] at N
  refine TurnQ.next _ F N (fun p hp => ?_) (fun p hp => ?_) (fun p hp => ?_) hj
  · simp only [List.mem_cons, List.mem_append]; grind
  · simp only [List.mem_cons, List.mem_append] at hp ⊢; grind
  · simp only [List.mem_cons] at hp
    have q1 := hc c₅ (by simp)
    have q2 := hc c₄ (by simp)
    have q3 := hc c₃ (by simp)
    have q4 := hc c₂ (by simp)
    have q5 := hc c₁ (by simp)
    rcases hp with rfl | rfl | rfl | rfl | rfl | rfl | rfl | hp
    · intro vs h; cases h
    · exact q1
    · exact q2
    · exact q3
    · exact q4
    · exact q5
    · exact hT
    · exact hc p (by simp [hp])
theorem seg2b {w : World} {d u : Nat} {fr : Option (List Env)} {g : Option (List Code)} {s₀ s : Shared} {L D : Addr} {m₀ : Str → Option Value} {A B : Str} {a b : Nat} {o₁ o₂ o₃ o₄ o₅ : Obj}
    {name qual : Str} {params : Arguments} {body : List Stmt} {scope : Scope} {dV kV doc pm cdv ct oc : Value} {an od : Option Addr} {osl : Array (Option Value)}
    (ho : (hd.heap_39 w.params).lookup 130 = some ⟨oc, od, .func (fnOf name qual params body scope dV kV doc pm an cdv ct), osl⟩)
    (G : Gd w s₀.heap) (hroom : d < 870) (hu : u < 8000) (hs : ∃ h tk, s = { s₀ with heap := h, toks := tk })
    (hA : Word A) (lA : A.length ≤ 4) (hB : Word B) (lB : B.length ≤ 6) (C : Cells5 A B a b o₁ o₂ o₃ o₄ o₅)
    {us : List Value} {k : Nat} {led : List (Addr × Obj)} (F : Fr s₀.heap L s.heap (ov [(Str.ofString "due", some (.ref D))] m₀)) (N : News s₀.heap L s.heap ((D, W.listOf us.toArray k) :: cl5 L o₁ o₂ o₃ o₄ o₅ led))
    (hdat : DatAll led us ((due0 A B).map srowD)) (hus : us.length ≤ 1) (hD : ∀ p ∈ led, p.1 ≠ D) (hL5 : @LT.lt Nat _ (L + 5) D) (hoff : Off5 L led) (hcalm : Calm led)
    (K : ∀ h tk m us k led, Fr s₀.heap L h (ov [(Str.ofString "due", some (.ref D))] m) → News s₀.heap L h ((D, W.listOf us.toArray k) :: cl5 L o₁ o₂ o₃ o₄ o₅ led) → DatAll led us ((dueAll A B).map srowD) → (∀ p ∈ led, p.1 ≠ D) → Off5 L led → Calm led →
      LawGo w d u fr g qual scope cdv s₀ L (body.drop 7) { s₀ with heap := h, toks := tk }) :
    LawGo w d u fr g qual scope cdv s₀ L (body.drop 6) s := by
  obtain ⟨h, tk, rfl⟩ := hs
  have e := ho.symm.trans (by k_is : (hd.heap_39 w.params).lookup 130 = some ⟨_, _, .func (fnOf _ _ _ _ _ _ _ _ _ _ _ _), _⟩)
  cases e
  obtain ⟨mean, mg, mb, T⟩ := G.T
  have X := G.X
  have C' := C
  obtain ⟨⟨v₁, d₁⟩, ⟨tA, d₂⟩, ⟨tB, d₃⟩, ⟨ta, d₄⟩, ⟨tb, d₅⟩⟩ := C'
  walk_at "go"
  refine iterStr (fun i m news => ∃ us k led m', news = (D, W.listOf us.toArray k) :: cl5 L o₁ o₂ o₃ o₄ o₅ led ∧ DatAll led us ((due0 A B ++ dueOf A B (letters.take i)).map srowD) ∧ us.length ≤ 1 + i ∧ (∀ p ∈ led, p.1 ≠ D) ∧ Off5 L led ∧ Calm led ∧
      m = ov [(Str.ofString "due", some (.ref D))] m')
    rfl (by assumption) N (Calm.cons (by intro vs h; cases h) (C.calm hcalm)) ⟨us, k, led, _, rfl, by simpa [dueOf] using hdat, by omega, hD, hoff, hcalm, by walk_at "same map"⟩ ?_ ?_
  · rintro i c t₁ m₁ news₁ h tk₁ own hc ⟨us, k, led, m', rfl, hdat, hus, hD, hoff, hcalm, rfl⟩ hcalm2 hown F1 N1
    rw [text_letters, List.getElem?_map, Option.map_eq_some_iff] at hc
    obtain ⟨v, hv, rfl⟩ := hc
    have hi9 : i < 9 := by have := (List.getElem?_eq_some_iff.mp hv).1; exact this
    rw [List.take_add_one, hv, Option.toList_some, dueOf_snoc]
    have cB := count_upper hB v
    have cA := count_upper hA v
    simp only [List.cons_append] at N1
    have hD2 : ∀ p ∈ led ++ own, p.1 ≠ D := fun p hp => (List.mem_append.mp hp).elim (hD p) fun q => hown p q _ List.mem_cons_self
    have eS : Str.ofString "^" ++ (⟨#[64 + v]⟩ : Str) = ⟨#[94, 64 + v]⟩ := by
      rw [show Str.ofString "^" = ⟨#[94]⟩ by decide]; rfl
    refine hideQ fun Tq hTq => ?_
    walk_at "go"
    · rename News _ _ _ _ => N2
      rename Fr _ _ _ _ => F2
      rename Txt.count _ _ - Txt.count _ _ ≠ 0 => hne
      rw [cB, cA] at hne
      rw [cB, cA, eS] at N2
      rename _ < _ ∧ _ < _ ∧ _ => hlt
      rw [hTq, if_pos hne, ← List.append_assoc, List.map_append]
      refine TurnQ.push5 N2 F2 hcalm2 (by intro vs h; cases h) ⟨_, _, _, _, rfl, (hdat.mono (fun _ h => List.mem_cons_of_mem _ h)).append (.one (.tuple List.mem_cons_self (.cons (.str _ _) (.cons (.int _ _) .nil)))), by simp; omega, List.forall_mem_cons.mpr ⟨?_, hD⟩, List.forall_mem_cons.mpr ⟨?_, hoff⟩, Calm.cons (by intro vs h; cases h) hcalm, by walk_at "same map"⟩
      · exact (Nat.ne_of_lt hlt.1).symm
      · exact off5_lt hlt.2.1
    · rename Txt.count _ _ - Txt.count _ _ = 0 => hne
      rw [cB, cA] at hne
      rw [hTq, if_neg (by omega), List.append_nil]
      exact TurnQ.next ((D, W.listOf us.toArray k) :: cl5 L o₁ o₂ o₃ o₄ o₅ led) (by assumption) (by assumption) (by walk_at "sub") (by walk_at "sub") hcalm2 ⟨us, k, led, _, rfl, hdat, by omega, hD, hoff, hcalm, by walk_at "same map"⟩
  · rintro m₁ news₁ h tk₁ ⟨us, k, led, m', rfl, hdat, hus, hD, hoff, hcalm, rfl⟩ hcalm2 F1 N1
    have eL : letters.take (Str.ofString "IHGFEDCBA").cps.toList.length = letters := by rw [text_letters]; rfl
    rw [eL] at hdat
    exact K h _ _ us k led F1 N1 hdat hD hoff hcalm
-- two maps of names are one: the names by computation, the others fall through
-- objects that stood before the call
theorem prep14 : True := by
  k_with_none
  k_with "it" => (simp only [decide_eq_true_eq, beq_iff_eq, bne_iff_ne, ne_eq]; omega)
  k_with "ite" => first | refine ite_neg (by walk_at "it") ?_ | refine ite_pos (by walk_at "it") ?_
  k_with "st" => first | walk1 | (dsimp only; walk1)
  k_with "go" => repeat' ((fail_if_success (with_reducible show wpAny _ _ (pyIter _) _ _ _)); (walk_at "st"))
  k_with "for" => walk_at "real0"
  k_with "exec For Name Attribute cons nil" => (walk_at "for")
  k_with "exec For Name Call cons nil" => (walk_at "for")
  k_with "exec For Name Constant cons nil" => (walk_at "for")
  k_with "calm" => (repeat' (first | exact Calm.nil | refine Calm.cons (by intro vs h; cases h) ?_ | assumption))
  k_with "sub" => (intro p hp; (simp only [List.mem_cons, List.mem_append, List.not_mem_nil, or_false, false_or] at hp ⊢); first | assumption | grind)
  k_with "same map" => exact ov_eq (by (repeat' (first | exact List.forall_mem_nil _ | refine List.forall_mem_cons.mpr ⟨rfl, ?_⟩))) (fun _ _ => rfl)
  k_with "call builtin:len" => refine lenTup (by assumption) (by assumption) (by assumption) (by omega) ?_
  k_with "subscriptTail Name Name ref int" => (refine itemTup (by assumption) (by assumption) (by assumption) (by omega) (by omega) (by omega) ?_; intro _)
  k_with "execs cons Assign cons" => refine wpAny_execs_cons ?_
  k_with "eval ListComp" => ((rename Fr _ _ _ _ => lF'); (with_unfolding_all refine' compEval lF' ?k1 ?k2 ?k3 ?k4 ?k5 ?_; (case k1 => exact rfl); (case k2 => decide); (case k3 => exact rfl); (case k4 => decide); (case k5 => exact rfl); k_whole))
  k_with "o" => first | omega | (simp only [Around.deeper]; omega)
  k_with "g" => exact Gd.fr (by assumption) (by assumption)
  k_with "wf" => exact WsH.fr (by assumption) (by assumption)
  k_with "call ref" => (refine Gives.useT (longest (by walk_at "wf") (by walk_at "g") (by walk_at "o") (by omega)) (by k_asm) (by k_asm) ?_; intro _ _ _ _ _)
  k_with "call ref" => (refine Gives.useT (level (by walk_at "wf") (by walk_at "g") (by walk_at "o") (by omega) (by omega) (by omega)) (by k_asm) (by k_asm) ?_; intro _ _ _ _ _)
  k_with "call ref" => (refine Gives.use0 (word (by walk_at "g") (by walk_at "o") (by omega) (by omega) (by omega) (by omega)) (by k_asm) (by k_asm) ?_; intro _ _ _ hv _ _; obtain ⟨_, _, hv, _, _⟩ := hv; subst hv)
  k_with "call ref" => (refine Gives.useT (column (by walk_at "g") (by walk_at "o") (by assumption) (by omega) (by omega) (by omega)) (by k_asm) (by k_asm) ?_; intro _ _ _ _ _)
  k_with "exec Assign cons ListComp" => ((rename Fr _ _ _ _ => lF'); (with_unfolding_all refine' compAssign lF' ?k0 ?ks ?k1 ?k2 ?k3 ?k4 ?k5 ?k6 ?k7 ?_; (case k0 => exact rfl); (case ks => exact rfl); (case k1 => exact rfl); (case k2 => decide); (case k3 => exact rfl); (case k4 => decide); (case k5 => exact rfl); (case k6 => exact rfl); (case k7 => exact rfl); k_whole))
  k_with "call builtin:str.upper" => refine upperE (by assumption) (by omega) ?_
  k_with "goF" => repeat' ((fail_if_success (with_reducible show wpAny _ _ (execs (Stmt.For _ _ _ _ _ :: _) _) _ _ _)); (walk_at "st"))
  w_top off
  trivial
theorem seg2 {w : World} {d u : Nat} {fr : Option (List Env)} {g : Option (List Code)} {s₀ s : Shared} {L : Addr} {m₀ : Str → Option Value} {A B : Str} {a b : Nat} {o₁ o₂ o₃ o₄ o₅ : Obj}
    {name qual : Str} {params : Arguments} {body : List Stmt} {scope : Scope} {dV kV doc pm cdv ct oc : Value} {an od : Option Addr} {osl : Array (Option Value)}
    (ho : (hd.heap_39 w.params).lookup 130 = some ⟨oc, od, .func (fnOf name qual params body scope dV kV doc pm an cdv ct), osl⟩)
    (G : Gd w s₀.heap) (hroom : d < 870) (hu : u < 8000) (hs : ∃ h tk, s = { s₀ with heap := h, toks := tk })
    (hA : Word A) (lA : A.length ≤ 4) (hB : Word B) (lB : B.length ≤ 6) (C : Cells5 A B a b o₁ o₂ o₃ o₄ o₅)
    (F : Fr s₀.heap L s.heap m₀) (N : News s₀.heap L s.heap (cl5 L o₁ o₂ o₃ o₄ o₅ []))
    (K : ∀ h tk m D us k led, @LT.lt Nat _ (L + 5) D → Fr s₀.heap L h (ov [(Str.ofString "due", some (.ref D))] m) → News s₀.heap L h ((D, W.listOf us.toArray k) :: cl5 L o₁ o₂ o₃ o₄ o₅ led) → DatAll led us ((dueAll A B).map srowD) → (∀ p ∈ led, p.1 ≠ D) → Off5 L led → Calm led →
      LawGo w d u fr g qual scope cdv s₀ L (body.drop 7) { s₀ with heap := h, toks := tk }) :
    LawGo w d u fr g qual scope cdv s₀ L (body.drop 5) s := by
  obtain ⟨h, tk, rfl⟩ := hs
  have e := ho.symm.trans (by k_is : (hd.heap_39 w.params).lookup 130 = some ⟨_, _, .func (fnOf _ _ _ _ _ _ _ _ _ _ _ _), _⟩)
  cases e
  obtain ⟨mean, mg, mb, T⟩ := G.T
  have X := G.X
  have C' := C
  obtain ⟨⟨v₁, d₁⟩, ⟨tA, d₂⟩, ⟨tB, d₃⟩, ⟨ta, d₄⟩, ⟨tb, d₅⟩⟩ := C'
  walk_at "goF"
  · rename News _ _ _ _ => N2
    rename Fr _ _ _ _ => F2
    rename ((B.length : Int) ≠ (A.length : Int)) => hne
    refine seg2b ho G hroom hu ⟨_, _, rfl⟩ hA lA hB lB C (Fr.ovr F2 (List.forall_mem_cons.mpr ⟨rfl, List.forall_mem_nil _⟩)) (us := [_]) (news_rot5 N2) ?_ (Nat.le_refl _) ?_ ?_ ?_ (Calm.cons (by intro vs h; cases h) Calm.nil) ?_
    · rw [due0, if_pos hne]
      exact .one (.tuple List.mem_cons_self (.cons (.str _ _) (.cons (.int _ _) .nil)))
    · refine List.forall_mem_cons.mpr ⟨?_, List.forall_mem_nil _⟩
      refine neN ?_
      dsimp only
      omega
    · omega
    · refine List.forall_mem_cons.mpr ⟨?_, List.forall_mem_nil _⟩
      refine off5_lt (D := _) ?_
      rename _ < _ ∧ _ < _ ∧ _ < _ ∧ _ < _ ∧ _ < _ => hlt
      exact hlt.1
    · intro h tk m us k led F3 N3 a1 a2 a3 a4
      exact K h tk m _ us k led (by omega) F3 N3 a1 a2 a3 a4
  · rename News _ _ _ _ => N2
    rename Fr _ _ _ _ => F2
    rename ((B.length : Int) = (A.length : Int)) => hne
    refine seg2b ho G hroom hu ⟨_, _, rfl⟩ hA lA hB lB C (Fr.ovr F2 (List.forall_mem_cons.mpr ⟨rfl, List.forall_mem_nil _⟩)) (us := []) N2 ?_ (Nat.zero_le _) (fun _ hp => nomatch hp) ?_ (fun _ hp => nomatch hp) Calm.nil ?_
    · rw [due0, if_neg (by omega)]
      exact .nil
    · omega
    · intro h tk m us k led F3 N3 a1 a2 a3 a4
      exact K h tk m _ us k led (by omega) F3 N3 a1 a2 a3 a4
-- two maps of names are one: the names by computation, the others fall through
-- objects that stood before the call
theorem prep15 : True := by
  k_with_none
  k_with "it" => (simp only [decide_eq_true_eq, beq_iff_eq, bne_iff_ne, ne_eq]; omega)
  k_with "ite" => first | refine ite_neg (by walk_at "it") ?_ | refine ite_pos (by walk_at "it") ?_
  k_with "st" => first | walk1 | (dsimp only; walk1)
  k_with "go" => repeat' ((fail_if_success (with_reducible show wpAny _ _ (pyIter _) _ _ _)); (walk_at "st"))
  k_with "for" => walk_at "real0"
  k_with "exec For Name Attribute cons nil" => (walk_at "for")
  k_with "exec For Name Call cons nil" => (walk_at "for")
  k_with "exec For Name Constant cons nil" => (walk_at "for")
  k_with "calm" => (repeat' (first | exact Calm.nil | refine Calm.cons (by intro vs h; cases h) ?_ | assumption))
  k_with "sub" => (intro p hp; (simp only [List.mem_cons, List.mem_append, List.not_mem_nil, or_false, false_or] at hp ⊢); first | assumption | grind)
  k_with "same map" => exact ov_eq (by (repeat' (first | exact List.forall_mem_nil _ | refine List.forall_mem_cons.mpr ⟨rfl, ?_⟩))) (fun _ _ => rfl)
  k_with "call builtin:len" => refine lenTup (by assumption) (by assumption) (by assumption) (by omega) ?_
  k_with "subscriptTail Name Name ref int" => (refine itemTup (by assumption) (by assumption) (by assumption) (by omega) (by omega) (by omega) ?_; intro _)
  k_with "execs cons Assign cons" => refine wpAny_execs_cons ?_
  k_with "eval ListComp" => ((rename Fr _ _ _ _ => lF'); (with_unfolding_all refine' compEval lF' ?k1 ?k2 ?k3 ?k4 ?k5 ?_; (case k1 => exact rfl); (case k2 => decide); (case k3 => exact rfl); (case k4 => decide); (case k5 => exact rfl); k_whole))
  k_with "o" => first | omega | (simp only [Around.deeper]; omega)
  k_with "g" => exact Gd.fr (by assumption) (by assumption)
  k_with "wf" => exact WsH.fr (by assumption) (by assumption)
  k_with "call ref" => (refine Gives.useT (longest (by walk_at "wf") (by walk_at "g") (by walk_at "o") (by omega)) (by k_asm) (by k_asm) ?_; intro _ _ _ _ _)
  k_with "call ref" => (refine Gives.useT (level (by walk_at "wf") (by walk_at "g") (by walk_at "o") (by omega) (by omega) (by omega)) (by k_asm) (by k_asm) ?_; intro _ _ _ _ _)
  k_with "call ref" => (refine Gives.use0 (word (by walk_at "g") (by walk_at "o") (by omega) (by omega) (by omega) (by omega)) (by k_asm) (by k_asm) ?_; intro _ _ _ hv _ _; obtain ⟨_, _, hv, _, _⟩ := hv; subst hv)
  k_with "call ref" => (refine Gives.useT (column (by walk_at "g") (by walk_at "o") (by assumption) (by omega) (by omega) (by omega)) (by k_asm) (by k_asm) ?_; intro _ _ _ _ _)
  k_with "exec Assign cons ListComp" => ((rename Fr _ _ _ _ => lF'); (with_unfolding_all refine' compAssign lF' ?k0 ?ks ?k1 ?k2 ?k3 ?k4 ?k5 ?k6 ?k7 ?_; (case k0 => exact rfl); (case ks => exact rfl); (case k1 => exact rfl); (case k2 => decide); (case k3 => exact rfl); (case k4 => decide); (case k5 => exact rfl); (case k6 => exact rfl); (case k7 => exact rfl); k_whole))
  k_with "call builtin:str.upper" => refine upperE (by assumption) (by omega) ?_
  k_with "call builtin:str.index" => refine SC.index (by assumption) ?_
  k_with "goT" => repeat' ((fail_if_success (with_reducible show wpAny _ _ (execs (Stmt.Assign [Expr.Name (Str.ofString "table") _] _ _ :: _) _) _ _ _)); (fail_if_success (with_reducible show wpAny _ _ (pyIter _) _ _ _)); (walk_at "st"))
  w_top off
  trivial
theorem seg3a {w : World} {d u : Nat} {fr : Option (List Env)} {g : Option (List Code)} {s₀ s : Shared} {L Dd : Addr} {m₀ : Str → Option Value} {A B : Str} {a b : Nat} {o₁ o₂ o₃ o₄ o₅ : Obj} {tl : List (Addr × Obj)}
    {name qual : Str} {params : Arguments} {body : List Stmt} {scope : Scope} {dV kV doc pm cdv ct oc : Value} {an od : Option Addr} {osl : Array (Option Value)}
    (ho : (hd.heap_39 w.params).lookup 130 = some ⟨oc, od, .func (fnOf name qual params body scope dV kV doc pm an cdv ct), osl⟩)
    (G : Gd w s₀.heap) (hroom : d < 870) (hu : u < 8000) (hs : ∃ h tk, s = { s₀ with heap := h, toks := tk })
    (hA : Word A) (lA : A.length ≤ 4) (hB : Word B) (lB : B.length ≤ 6) (ha : a ≤ 7) (hb : b ≤ 7) (C : Cells5 A B a b o₁ o₂ o₃ o₄ o₅)
    (F : Fr s₀.heap L s.heap (ov [(Str.ofString "due", some (.ref Dd))] m₀)) (N : News s₀.heap L s.heap (cl5 L o₁ o₂ o₃ o₄ o₅ tl)) (hoff : Off5 L tl) (hcalm : Calm tl)
    (K : ∀ h tk m t, Fr s₀.heap L h (ov [(Str.ofString "reach", some (.int (reach (wst (rawOf (vals A) a)) (wst (rawOf (vals B) b))) t)), (Str.ofString "due", some (.ref Dd))] m) → News s₀.heap L h (cl5 L o₁ o₂ o₃ o₄ o₅ tl) →
      LawGo w d u fr g qual scope cdv s₀ L (body.drop 8) { s₀ with heap := h, toks := tk }) :
    LawGo w d u fr g qual scope cdv s₀ L (body.drop 7) s := by
  obtain ⟨h, tk, rfl⟩ := hs
  have e := ho.symm.trans (by k_is : (hd.heap_39 w.params).lookup 130 = some ⟨_, _, .func (fnOf _ _ _ _ _ _ _ _ _ _ _ _), _⟩)
  cases e
  obtain ⟨mean, mg, mb, T⟩ := G.T
  have X := G.X
  have C' := C
  obtain ⟨⟨v₁, d₁⟩, ⟨tA, d₂⟩, ⟨tB, d₃⟩, ⟨ta, d₄⟩, ⟨tb, d₅⟩⟩ := C'
  have eA : Txt.lower A = ⟨A.cps.map lo1⟩ := lower_ascii hA.ascii
  have eB : Txt.lower B = ⟨B.cps.map lo1⟩ := lower_ascii hB.ascii
  have lenA : (Txt.lower A).length = A.length := by rw [eA]; simp [Str.length]
  have lenB : (Txt.lower B).length = B.length := by rw [eB]; simp [Str.length]
  walk_at "go"
  have hlen : (Txt.lower A ++ Txt.lower B).cps.size = A.length + B.length := by
    rw [Str.cps_append, Array.size_append]; show (Txt.lower A).length + (Txt.lower B).length = _; rw [lenA, lenB]
  refine compStr rfl (by assumption) (by assumption) (by rw [hlen, sizeLine_eq]; omega) (fun g => ?_)
  refine compInd (fun i ys news => news = cl5 L o₁ o₂ o₃ o₄ o₅ tl ∧ IntsAre ys (((vals A ++ vals B).map (fun v => ((v : Nat) : Int))).take i)) ?_ ?_ _ _ _ _ (Nat.zero_add _) ⟨rfl, .nil⟩
  · rintro i ys news hi ⟨rfl, hys⟩ v I oI C oC D m₂ h tk₁ E' ⟨c, u', hc, rfl⟩ hN hm F1 N1 ho hne
    have hcl : ∃ c₀, Sign c₀ ∧ c = lo1 c₀ ∧ ((vals A ++ vals B).map (fun v => ((v : Nat) : Int)))[i]? = some ((c₀ % 32 : Nat) : Int) := by
      have e1 : (Txt.lower A ++ Txt.lower B).cps.toList = (A.cps.toList ++ B.cps.toList).map lo1 := by
        rw [Str.cps_append, eA, eB]; simp
      have e2 : (vals A ++ vals B).map (fun v => ((v : Nat) : Int)) = (A.cps.toList ++ B.cps.toList).map (fun c => ((c % 32 : Nat) : Int)) := by
        simp [vals, List.map_map, Function.comp_def]
      rw [← Array.getElem?_toList, e1, List.getElem?_map, Option.map_eq_some_iff] at hc
      obtain ⟨c₀, h0, rfl⟩ := hc
      refine ⟨c₀, ?_, rfl, by rw [e2, List.getElem?_map, h0]; rfl⟩
      rcases List.mem_append.mp (List.mem_of_getElem? h0) with q | q
      · exact hA c₀ q
      · exact hB c₀ q
    obtain ⟨c₀, hsg, rfl, hval⟩ := hcl
    have hl1 := lo1_sign c₀ (by unfold Sign at hsg; omega) hsg
    have hocc := idx_occ (lo1 c₀) hl1.2.2 hl1.1
    rw [hl1.2.1] at hocc
    walk_at "go"
    k_unfold
    refine LCg.CompEnd.intro F1 N1 _ (by walk_at "sub") ho trivial ⟨rfl, ?_⟩
    rw [List.take_add_one, hval]
    exact hys.append (.cons _ _ .nil)
  · rintro ys news ⟨rfl, hys⟩ D h tk₁ F1 N1 ho
    walk_at "goT"
    have eT : ((vals A ++ vals B).map (fun v => ((v : Nat) : Int))).take (Txt.lower A ++ Txt.lower B).cps.size = (vals A ++ vals B).map (fun v => ((v : Nat) : Int)) := List.take_of_length_le (by rw [hlen]; simp [vals_length])
    rename News _ _ _ _ => N2
    rename Fr _ _ _ _ => F2
    rename (_ : Int) ∈ _ => hM1
    rename ∀ x, x ∈ _ → x ≤ _ => hM2
    rw [eT] at hM1 hM2
    have hM := L_reach hM1 hM2
    rw [hM] at F2
    exact K _ _ _ _ (Fr.ovr F2 (List.forall_mem_cons.mpr ⟨rfl, List.forall_mem_cons.mpr ⟨rfl, List.forall_mem_nil _⟩⟩)) (fun p hp => N2 p (List.mem_cons_of_mem _ (List.mem_cons_of_mem _ (List.mem_cons_of_mem _ hp))))
-- two maps of names are one: the names by computation, the others fall through
-- objects that stood before the call
theorem prep16 : True := by
  k_with_none
  k_with "it" => (simp only [decide_eq_true_eq, beq_iff_eq, bne_iff_ne, ne_eq]; omega)
  k_with "ite" => first | refine ite_neg (by walk_at "it") ?_ | refine ite_pos (by walk_at "it") ?_
  k_with "st" => first | walk1 | (dsimp only; walk1)
  k_with "go" => repeat' ((fail_if_success (with_reducible show wpAny _ _ (pyIter _) _ _ _)); (walk_at "st"))
  k_with "for" => walk_at "real0"
  k_with "exec For Name Attribute cons nil" => (walk_at "for")
  k_with "exec For Name Call cons nil" => (walk_at "for")
  k_with "exec For Name Constant cons nil" => (walk_at "for")
  k_with "calm" => (repeat' (first | exact Calm.nil | refine Calm.cons (by intro vs h; cases h) ?_ | assumption))
  k_with "sub" => (intro p hp; (simp only [List.mem_cons, List.mem_append, List.not_mem_nil, or_false, false_or] at hp ⊢); first | assumption | grind)
  k_with "same map" => exact ov_eq (by (repeat' (first | exact List.forall_mem_nil _ | refine List.forall_mem_cons.mpr ⟨rfl, ?_⟩))) (fun _ _ => rfl)
  k_with "call builtin:len" => refine lenTup (by assumption) (by assumption) (by assumption) (by omega) ?_
  k_with "subscriptTail Name Name ref int" => (refine itemTup (by assumption) (by assumption) (by assumption) (by omega) (by omega) (by omega) ?_; intro _)
  k_with "execs cons Assign cons" => refine wpAny_execs_cons ?_
  k_with "eval ListComp" => ((rename Fr _ _ _ _ => lF'); (with_unfolding_all refine' compEval lF' ?k1 ?k2 ?k3 ?k4 ?k5 ?_; (case k1 => exact rfl); (case k2 => decide); (case k3 => exact rfl); (case k4 => decide); (case k5 => exact rfl); k_whole))
  k_with "o" => first | omega | (simp only [Around.deeper]; omega)
  k_with "g" => exact Gd.fr (by assumption) (by assumption)
  k_with "wf" => exact WsH.fr (by assumption) (by assumption)
  k_with "call ref" => (refine Gives.useT (longest (by walk_at "wf") (by walk_at "g") (by walk_at "o") (by omega)) (by k_asm) (by k_asm) ?_; intro _ _ _ _ _)
  k_with "call ref" => (refine Gives.useT (level (by walk_at "wf") (by walk_at "g") (by walk_at "o") (by omega) (by omega) (by omega)) (by k_asm) (by k_asm) ?_; intro _ _ _ _ _)
  k_with "call ref" => (refine Gives.use0 (word (by walk_at "g") (by walk_at "o") (by omega) (by omega) (by omega) (by omega)) (by k_asm) (by k_asm) ?_; intro _ _ _ hv _ _; obtain ⟨_, _, hv, _, _⟩ := hv; subst hv)
  k_with "call ref" => (refine Gives.useT (column (by walk_at "g") (by walk_at "o") (by assumption) (by omega) (by omega) (by omega)) (by k_asm) (by k_asm) ?_; intro _ _ _ _ _)
  k_with "exec Assign cons ListComp" => ((rename Fr _ _ _ _ => lF'); (with_unfolding_all refine' compAssign lF' ?k0 ?ks ?k1 ?k2 ?k3 ?k4 ?k5 ?k6 ?k7 ?_; (case k0 => exact rfl); (case ks => exact rfl); (case k1 => exact rfl); (case k2 => decide); (case k3 => exact rfl); (case k4 => decide); (case k5 => exact rfl); (case k6 => exact rfl); (case k7 => exact rfl); k_whole))
  k_with "call builtin:str.upper" => refine upperE (by assumption) (by omega) ?_
  k_with "call builtin:str.index" => refine SC.index (by assumption) ?_
  w_top off
  trivial
theorem seg3b {w : World} {d u : Nat} {fr : Option (List Env)} {g : Option (List Code)} {s₀ s : Shared} {L Dd : Addr} {m₀ : Str → Option Value} {A B : Str} {a b : Nat} {o₁ o₂ o₃ o₄ o₅ : Obj} {tl : List (Addr × Obj)} {R : Int} {tR : Tok}
    {name qual : Str} {params : Arguments} {body : List Stmt} {scope : Scope} {dV kV doc pm cdv ct oc : Value} {an od : Option Addr} {osl : Array (Option Value)}
    (ho : (hd.heap_39 w.params).lookup 130 = some ⟨oc, od, .func (fnOf name qual params body scope dV kV doc pm an cdv ct), osl⟩)
    (G : Gd w s₀.heap) (hroom : d < 870) (hu : u < 8000) (hs : ∃ h tk, s = { s₀ with heap := h, toks := tk })
    (hA : Word A) (lA : A.length ≤ 4) (hB : Word B) (lB : B.length ≤ 6) (ha : a ≤ 7) (hb : b ≤ 7) (hR1 : 1 ≤ R) (hR2 : R ≤ 20) (C : Cells5 A B a b o₁ o₂ o₃ o₄ o₅)
    (F : Fr s₀.heap L s.heap (ov [(Str.ofString "reach", some (.int R tR)), (Str.ofString "due", some (.ref Dd))] m₀)) (N : News s₀.heap L s.heap (cl5 L o₁ o₂ o₃ o₄ o₅ tl)) (hoff : Off5 L tl) (hcalm : Calm tl)
    (K : ∀ h tk m Dt tl', (∀ p ∈ tl, p ∈ tl') → DatIn tl' (.ref Dt) (rowsD (table (st (vals A) a) (st (vals B) b) R.toNat)) → Off5 L tl' → Calm tl' →
      Fr s₀.heap L h (ov [(Str.ofString "table", some (.ref Dt)), (Str.ofString "due", some (.ref Dd))] m) → News s₀.heap L h (cl5 L o₁ o₂ o₃ o₄ o₅ tl') →
      LawGo w d u fr g qual scope cdv s₀ L (body.drop 9) { s₀ with heap := h, toks := tk }) :
    LawGo w d u fr g qual scope cdv s₀ L (body.drop 8) s := by
  obtain ⟨h, tk, rfl⟩ := hs
  have e := ho.symm.trans (by k_is : (hd.heap_39 w.params).lookup 130 = some ⟨_, _, .func (fnOf _ _ _ _ _ _ _ _ _ _ _ _), _⟩)
  cases e
  obtain ⟨mean, mg, mb, T⟩ := G.T
  have X := G.X
  have C' := C
  obtain ⟨⟨v₁, d₁⟩, ⟨tA, d₂⟩, ⟨tB, d₃⟩, ⟨ta, d₄⟩, ⟨tb, d₅⟩⟩ := C'
  walk_at "go"
  rename IsRange _ _ _ _ _ _ _ _ => R0
  rename Fr _ _ _ _ => F0
  rename News _ _ _ _ => N0
  refine compRange (n := R.toNat) rfl F0 N0 R0 (rangeSmall1 (by omega) (by omega) (by omega) (by omega)) ((rangeSize1 _ _).trans (by rw [show R + 1 - 1 = R by omega])) (by rw [sizeLine_eq]; omega) (fun g => ?_)
  refine compInd (fun i ys news => ∃ tl', news = cl5 L o₁ o₂ o₃ o₄ o₅ tl' ∧ (∀ p ∈ tl, p ∈ tl') ∧ DatAll tl' ys ((table (st (vals A) a) (st (vals B) b) i).map rowD) ∧ Off5 L tl' ∧ Calm tl') ?_ ?_ _ _ _ _ (Nat.zero_add _) ⟨tl, rfl, fun _ h => h, .nil, hoff, hcalm⟩
  · rintro i ys news hi ⟨tl', rfl, hsub, hdat, hoff, hcalm⟩ v I oI C oC D m₂ h tk₁ E' ⟨u', rfl⟩ hN hm F1 N1 ho hne
    walk_at "go"
    rename News _ _ _ _ => N2
    rename Fr _ _ _ _ => F2
    rw [L_level (by omega), L_level (by omega)] at N2
    refine CompEnd.push5 F2 N2 ho (by omega) ⟨_, rfl, fun p hp => List.mem_cons_of_mem _ (hsub p hp), ?_, List.forall_mem_cons.mpr ⟨?_, hoff⟩, Calm.cons (by intro vs h; cases h) hcalm⟩
    · rw [table_succ, List.map_append]
      exact (hdat.mono (fun _ h => List.mem_cons_of_mem _ h)).append (.one (.tuple List.mem_cons_self (.cons (.int _ _) (.cons (.int _ _) (.cons (.int _ _) .nil)))))
    · rename _ < _ ∧ _ < _ ∧ _ < _ ∧ _ => hlt
      exact off5_lt hlt.2.2.2.1
  · rintro ys news ⟨tl', rfl, hsub, hdat, hoff, hcalm⟩ D h tk₁ F1 N1 ho
    have q := off1_off5 ho
    exact K _ _ _ D ((D, LCg.lst ys) :: tl') (fun p hp => List.mem_cons_of_mem _ (hsub p hp)) (.list List.mem_cons_self (hdat.mono (fun _ h => List.mem_cons_of_mem _ h))) (List.forall_mem_cons.mpr ⟨off5_ne q, hoff⟩) (Calm.cons (by intro vs h; cases h) hcalm)
      (Fr.ovr F1 (List.forall_mem_cons.mpr ⟨rfl, List.forall_mem_cons.mpr ⟨rfl, List.forall_mem_nil _⟩⟩)) (cl5_sub N1)
section
-- two maps of names are one: the names by computation, the others fall through
-- objects that stood before the call
local macro_rules | `(tactic| k_mem) => `(tactic| assumption)
theorem prep17 : True := by
  k_with_none
  k_with "it" => (simp only [decide_eq_true_eq, beq_iff_eq, bne_iff_ne, ne_eq]; omega)
  k_with "ite" => first | refine ite_neg (by walk_at "it") ?_ | refine ite_pos (by walk_at "it") ?_
  k_with "st" => first | walk1 | (dsimp only; walk1)
  k_with "go" => repeat' ((fail_if_success (with_reducible show wpAny _ _ (pyIter _) _ _ _)); (walk_at "st"))
  k_with "for" => walk_at "real0"
  k_with "exec For Name Attribute cons nil" => (walk_at "for")
  k_with "exec For Name Call cons nil" => (walk_at "for")
  k_with "exec For Name Constant cons nil" => (walk_at "for")
  k_with "calm" => (repeat' (first | exact Calm.nil | refine Calm.cons (by intro vs h; cases h) ?_ | assumption))
  k_with "sub" => (intro p hp; (simp only [List.mem_cons, List.mem_append, List.not_mem_nil, or_false, false_or] at hp ⊢); first | assumption | grind)
  k_with "same map" => exact ov_eq (by (repeat' (first | exact List.forall_mem_nil _ | refine List.forall_mem_cons.mpr ⟨rfl, ?_⟩))) (fun _ _ => rfl)
  k_with "call builtin:len" => refine lenTup (by assumption) (by assumption) (by assumption) (by omega) ?_
  k_with "subscriptTail Name Name ref int" => (refine itemTup (by assumption) (by assumption) (by assumption) (by omega) (by omega) (by omega) ?_; intro _)
  k_with "execs cons Assign cons" => refine wpAny_execs_cons ?_
  k_with "eval ListComp" => ((rename Fr _ _ _ _ => lF'); (with_unfolding_all refine' compEval lF' ?k1 ?k2 ?k3 ?k4 ?k5 ?_; (case k1 => exact rfl); (case k2 => decide); (case k3 => exact rfl); (case k4 => decide); (case k5 => exact rfl); k_whole))
  k_with "o" => first | omega | (simp only [Around.deeper]; omega)
  k_with "g" => exact Gd.fr (by assumption) (by assumption)
  k_with "wf" => exact WsH.fr (by assumption) (by assumption)
  k_with "call ref" => (refine Gives.useT (longest (by walk_at "wf") (by walk_at "g") (by walk_at "o") (by omega)) (by k_asm) (by k_asm) ?_; intro _ _ _ _ _)
  k_with "call ref" => (refine Gives.useT (level (by walk_at "wf") (by walk_at "g") (by walk_at "o") (by omega) (by omega) (by omega)) (by k_asm) (by k_asm) ?_; intro _ _ _ _ _)
  k_with "call ref" => (refine Gives.use0 (word (by walk_at "g") (by walk_at "o") (by omega) (by omega) (by omega) (by omega)) (by k_asm) (by k_asm) ?_; intro _ _ _ hv _ _; obtain ⟨_, _, hv, _, _⟩ := hv; subst hv)
  k_with "call ref" => (refine Gives.useT (column (by walk_at "g") (by walk_at "o") (by assumption) (by omega) (by omega) (by omega)) (by k_asm) (by k_asm) ?_; intro _ _ _ _ _)
  k_with "exec Assign cons ListComp" => ((rename Fr _ _ _ _ => lF'); (with_unfolding_all refine' compAssign lF' ?k0 ?ks ?k1 ?k2 ?k3 ?k4 ?k5 ?k6 ?k7 ?_; (case k0 => exact rfl); (case ks => exact rfl); (case k1 => exact rfl); (case k2 => decide); (case k3 => exact rfl); (case k4 => decide); (case k5 => exact rfl); (case k6 => exact rfl); (case k7 => exact rfl); k_whole))
  k_with "call builtin:str.upper" => refine upperE (by assumption) (by omega) ?_
  k_with "call builtin:str.index" => refine SC.index (by assumption) ?_
  k_with "exec Assign cons ListComp" => ((rename Fr _ _ _ _ => lF'); (with_unfolding_all refine' LCt.Assign_ListComp_T lF' ?k0 ?ks ?k1 ?k2 ?k3 ?k4 ?k5 ?k6 ?k7 ?_; (case k0 => exact rfl); (case ks => exact rfl); (case k1 => exact rfl); (case k2 => decide); (case k3 => exact rfl); (case k4 => decide); (case k5 => exact rfl); (case k6 => exact rfl); (case k7 => exact rfl); k_whole))
  k_with "goC" => repeat' ((fail_if_success (with_reducible show LCt.CompSrcT _ _ _ _ _ _ _ _ _ _ _ _ _ _ _)); (walk_at "st"))
  w_top off
  trivial
theorem seg3c {w : World} {d u : Nat} {fr : Option (List Env)} {g : Option (List Code)} {s₀ s : Shared} {L Dd Dt : Addr} {m₀ : Str → Option Value} {A B : Str} {a b : Nat} {o₁ o₂ o₃ o₄ o₅ : Obj} {tl : List (Addr × Obj)} {rows : List Row}
    {name qual : Str} {params : Arguments} {body : List Stmt} {scope : Scope} {dV kV doc pm cdv ct oc : Value} {an od : Option Addr} {osl : Array (Option Value)}
    (ho : (hd.heap_39 w.params).lookup 130 = some ⟨oc, od, .func (fnOf name qual params body scope dV kV doc pm an cdv ct), osl⟩)
    (G : Gd w s₀.heap) (hroom : d < 870) (hu : u < 8000) (hs : ∃ h tk, s = { s₀ with heap := h, toks := tk }) (C : Cells5 A B a b o₁ o₂ o₃ o₄ o₅)
    (F : Fr s₀.heap L s.heap (ov [(Str.ofString "table", some (.ref Dt)), (Str.ofString "due", some (.ref Dd))] m₀)) (N : News s₀.heap L s.heap (cl5 L o₁ o₂ o₃ o₄ o₅ tl)) (hoff : Off5 L tl) (hcalm : Calm tl)
    (hrows : rows.length ≤ 1000) (htab : DatIn tl (.ref Dt) (rowsD rows))
    (K : ∀ h tk m Du tl', (∀ p ∈ tl, p ∈ tl') → DatIn tl' (.ref Du) (rowsD (unlike rows)) → Off5 L tl' → Calm tl' →
      Fr s₀.heap L h (ov [(Str.ofString "unlike", some (.ref Du)), (Str.ofString "table", some (.ref Dt)), (Str.ofString "due", some (.ref Dd))] m) → News s₀.heap L h (cl5 L o₁ o₂ o₃ o₄ o₅ tl') →
      LawGo w d u fr g qual scope cdv s₀ L (body.drop 10) { s₀ with heap := h, toks := tk }) :
    LawGo w d u fr g qual scope cdv s₀ L (body.drop 9) s := by
  obtain ⟨h, tk, rfl⟩ := hs
  have e := ho.symm.trans (by k_is : (hd.heap_39 w.params).lookup 130 = some ⟨_, _, .func (fnOf _ _ _ _ _ _ _ _ _ _ _ _), _⟩)
  cases e
  obtain ⟨mean, mg, mb, T⟩ := G.T
  have X := G.X
  obtain ⟨⟨v₁, d₁⟩, ⟨tA, d₂⟩, ⟨tB, d₃⟩, ⟨ta, d₄⟩, ⟨tb, d₅⟩⟩ := C
  obtain ⟨us, kt, hmt, hdt⟩ : ∃ us k, (Dt, W.listOf us.toArray k) ∈ tl ∧ DatAll tl us (rows.map rowD) := by
    cases htab with
    | list hm hd => exact ⟨_, _, hm, hd⟩
  have hul : us.length = rows.length := by have := hdt.length; simpa using this
  walk_at "goC"
  refine LCt.CompSrcT.ledger (its := us.toArray) (k := kt) rfl (by assumption) (by assumption) (List.mem_append_right [_, _, _, _, _] hmt) (by rw [List.size_toArray, sizeLine_eq]; omega) (fun g => ?_)
  refine compIndT (fun i ys news => news = cl5 L o₁ o₂ o₃ o₄ o₅ tl ∧ DatAll tl ys ((unlike (rows.take i)).map rowD)) ?_ ?_ _ _ _ _ (Nat.zero_add _) ⟨rfl, .nil⟩
  · rintro i ys news hi ⟨rfl, hys⟩ v I oI C oC D m₂ h tk₁ E' hv hN hm F1 N1 ho hne
    obtain ⟨r, a, n, t1, t2, t3, hr, rfl, hmem⟩ := rowGet hdt (by simpa using hv)
    rw [take_snoc hr]
    have hsrc : LCg.SrcAt s₀.heap Dt us.toArray (cl5 L o₁ o₂ o₃ o₄ o₅ tl) := .inr ⟨_, List.mem_append_right [_, _, _, _, _] hmt, rfl, _, rfl⟩
    walk_at "go"
    · rename _ ≠ _ => hc
      refine LCg.CompEnd.intro F1 N1 (cl5 L o₁ o₂ o₃ o₄ o₅ tl) (fun p hp => hp) ho hsrc ⟨rfl, ?_⟩
      rw [show unlike (rows.take i ++ [r]) = unlike (rows.take i) ++ [r] by simp [unlike, List.filter_append, hc], List.map_append]
      exact hys.append (.one (.tuple hmem (.cons (.int _ _) (.cons (.int _ _) (.cons (.int _ _) .nil)))))
    · rename (_ : Int) = _ => hc
      refine LCg.CompEnd.intro F1 N1 (cl5 L o₁ o₂ o₃ o₄ o₅ tl) (fun p hp => hp) ho hsrc ⟨rfl, ?_⟩
      rw [show unlike (rows.take i ++ [r]) = unlike (rows.take i) by simp [unlike, List.filter_append, hc]]
      exact hys
  · rintro ys news ⟨rfl, hys⟩ D h tk₁ F1 N1 ho
    rw [List.take_of_length_le (by rw [List.size_toArray]; omega)] at hys
    have q := off1_off5 ho
    exact K _ _ _ D ((D, LCg.lst ys) :: tl) (fun p hp => List.mem_cons_of_mem _ hp) (.list List.mem_cons_self (hys.mono (fun _ h => List.mem_cons_of_mem _ h))) (List.forall_mem_cons.mpr ⟨off5_ne q, hoff⟩) (Calm.cons (by intro vs h; cases h) hcalm)
      (Fr.ovr F1 (List.forall_mem_cons.mpr ⟨rfl, List.forall_mem_cons.mpr ⟨rfl, List.forall_mem_cons.mpr ⟨rfl, List.forall_mem_nil _⟩⟩⟩)) (cl5_sub N1)
theorem seg3d {w : World} {d u : Nat} {fr : Option (List Env)} {g : Option (List Code)} {s₀ s : Shared} {L Dd Dt Dn : Addr} {m₀ : Str → Option Value} {A B : Str} {a b : Nat} {o₁ o₂ o₃ o₄ o₅ : Obj} {tl : List (Addr × Obj)} {rows : List Row}
    {name qual : Str} {params : Arguments} {body : List Stmt} {scope : Scope} {dV kV doc pm cdv ct oc : Value} {an od : Option Addr} {osl : Array (Option Value)}
    (ho : (hd.heap_39 w.params).lookup 130 = some ⟨oc, od, .func (fnOf name qual params body scope dV kV doc pm an cdv ct), osl⟩)
    (G : Gd w s₀.heap) (hroom : d < 870) (hu : u < 8000) (hs : ∃ h tk, s = { s₀ with heap := h, toks := tk }) (C : Cells5 A B a b o₁ o₂ o₃ o₄ o₅)
    (F : Fr s₀.heap L s.heap (ov [(Str.ofString "unlike", some (.ref Dn)), (Str.ofString "table", some (.ref Dt)), (Str.ofString "due", some (.ref Dd))] m₀)) (N : News s₀.heap L s.heap (cl5 L o₁ o₂ o₃ o₄ o₅ tl)) (hoff : Off5 L tl) (hcalm : Calm tl)
    (hrows : rows.length ≤ 1000) (htab : DatIn tl (.ref Dt) (rowsD rows))
    (K : ∀ h tk m Du tl', (∀ p ∈ tl, p ∈ tl') → DatIn tl' (.ref Du) (rowsD (above rows)) → Off5 L tl' → Calm tl' →
      Fr s₀.heap L h (ov [(Str.ofString "above", some (.ref Du)), (Str.ofString "unlike", some (.ref Dn)), (Str.ofString "table", some (.ref Dt)), (Str.ofString "due", some (.ref Dd))] m) → News s₀.heap L h (cl5 L o₁ o₂ o₃ o₄ o₅ tl') →
      LawGo w d u fr g qual scope cdv s₀ L (body.drop 11) { s₀ with heap := h, toks := tk }) :
    LawGo w d u fr g qual scope cdv s₀ L (body.drop 10) s := by
  obtain ⟨h, tk, rfl⟩ := hs
  have e := ho.symm.trans (by k_is : (hd.heap_39 w.params).lookup 130 = some ⟨_, _, .func (fnOf _ _ _ _ _ _ _ _ _ _ _ _), _⟩)
  cases e
  obtain ⟨mean, mg, mb, T⟩ := G.T
  have X := G.X
  obtain ⟨⟨v₁, d₁⟩, ⟨tA, d₂⟩, ⟨tB, d₃⟩, ⟨ta, d₄⟩, ⟨tb, d₅⟩⟩ := C
  obtain ⟨us, kt, hmt, hdt⟩ : ∃ us k, (Dt, W.listOf us.toArray k) ∈ tl ∧ DatAll tl us (rows.map rowD) := by
    cases htab with
    | list hm hd => exact ⟨_, _, hm, hd⟩
  have hul : us.length = rows.length := by have := hdt.length; simpa using this
  walk_at "goC"
  refine LCt.CompSrcT.ledger (its := us.toArray) (k := kt) rfl (by assumption) (by assumption) (List.mem_append_right [_, _, _, _, _] hmt) (by rw [List.size_toArray, sizeLine_eq]; omega) (fun g => ?_)
  refine compIndT (fun i ys news => news = cl5 L o₁ o₂ o₃ o₄ o₅ tl ∧ DatAll tl ys ((above (rows.take i)).map rowD)) ?_ ?_ _ _ _ _ (Nat.zero_add _) ⟨rfl, .nil⟩
  · rintro i ys news hi ⟨rfl, hys⟩ v I oI C oC D m₂ h tk₁ E' hv hN hm F1 N1 ho hne
    obtain ⟨r, a, n, t1, t2, t3, hr, rfl, hmem⟩ := rowGet hdt (by simpa using hv)
    rw [take_snoc hr]
    have hsrc : LCg.SrcAt s₀.heap Dt us.toArray (cl5 L o₁ o₂ o₃ o₄ o₅ tl) := .inr ⟨_, List.mem_append_right [_, _, _, _, _] hmt, rfl, _, rfl⟩
    walk_at "go"
    · rename ((_ : Int) ≤ _) => hc
      refine LCg.CompEnd.intro F1 N1 (cl5 L o₁ o₂ o₃ o₄ o₅ tl) (fun p hp => hp) ho hsrc ⟨rfl, ?_⟩
      rw [show above (rows.take i ++ [r]) = above (rows.take i) ++ [r] by simp [above, List.filter_append, hc], List.map_append]
      exact hys.append (.one (.tuple hmem (.cons (.int _ _) (.cons (.int _ _) (.cons (.int _ _) .nil)))))
    · rename ¬ ((_ : Int) ≤ _) => hc
      have hc' : r.2.1 < r.2.2 := by omega
      refine LCg.CompEnd.intro F1 N1 (cl5 L o₁ o₂ o₃ o₄ o₅ tl) (fun p hp => hp) ho hsrc ⟨rfl, ?_⟩
      rw [show above (rows.take i ++ [r]) = above (rows.take i) by simp [above, List.filter_append, hc']]
      exact hys
  · rintro ys news ⟨rfl, hys⟩ D h tk₁ F1 N1 ho
    rw [List.take_of_length_le (by rw [List.size_toArray]; omega)] at hys
    have q := off1_off5 ho
    exact K _ _ _ D ((D, LCg.lst ys) :: tl) (fun p hp => List.mem_cons_of_mem _ hp) (.list List.mem_cons_self (hys.mono (fun _ h => List.mem_cons_of_mem _ h))) (List.forall_mem_cons.mpr ⟨off5_ne q, hoff⟩) (Calm.cons (by intro vs h; cases h) hcalm)
      (Fr.ovr F1 (List.forall_mem_cons.mpr ⟨rfl, List.forall_mem_cons.mpr ⟨rfl, List.forall_mem_cons.mpr ⟨rfl, List.forall_mem_cons.mpr ⟨rfl, List.forall_mem_nil _⟩⟩⟩⟩)) (cl5_sub N1)
end
section
-- two maps of names are one: the names by computation, the others fall through
-- objects that stood before the call
local macro_rules | `(tactic| k_mem) => `(tactic| first | assumption | (refine List.mem_append_right _ ?_; k_mem) | (refine List.mem_append_left _ ?_; k_mem))
theorem prep18 : True := by
  k_with_none
  k_with "it" => (simp only [decide_eq_true_eq, beq_iff_eq, bne_iff_ne, ne_eq]; omega)
  k_with "ite" => first | refine ite_neg (by walk_at "it") ?_ | refine ite_pos (by walk_at "it") ?_
  k_with "st" => first | walk1 | (dsimp only; walk1)
  k_with "go" => repeat' ((fail_if_success (with_reducible show wpAny _ _ (pyIter _) _ _ _)); (walk_at "st"))
  k_with "for" => walk_at "real0"
  k_with "exec For Name Attribute cons nil" => (walk_at "for")
  k_with "exec For Name Call cons nil" => (walk_at "for")
  k_with "exec For Name Constant cons nil" => (walk_at "for")
  k_with "calm" => (repeat' (first | exact Calm.nil | refine Calm.cons (by intro vs h; cases h) ?_ | assumption))
  k_with "sub" => (intro p hp; (simp only [List.mem_cons, List.mem_append, List.not_mem_nil, or_false, false_or] at hp ⊢); first | assumption | grind)
  k_with "same map" => exact ov_eq (by (repeat' (first | exact List.forall_mem_nil _ | refine List.forall_mem_cons.mpr ⟨rfl, ?_⟩))) (fun _ _ => rfl)
  k_with "call builtin:len" => refine lenTup (by assumption) (by assumption) (by assumption) (by omega) ?_
  k_with "subscriptTail Name Name ref int" => (refine itemTup (by assumption) (by assumption) (by assumption) (by omega) (by omega) (by omega) ?_; intro _)
  k_with "execs cons Assign cons" => refine wpAny_execs_cons ?_
  k_with "eval ListComp" => ((rename Fr _ _ _ _ => lF'); (with_unfolding_all refine' compEval lF' ?k1 ?k2 ?k3 ?k4 ?k5 ?_; (case k1 => exact rfl); (case k2 => decide); (case k3 => exact rfl); (case k4 => decide); (case k5 => exact rfl); k_whole))
  k_with "o" => first | omega | (simp only [Around.deeper]; omega)
  k_with "g" => exact Gd.fr (by assumption) (by assumption)
  k_with "wf" => exact WsH.fr (by assumption) (by assumption)
  k_with "call ref" => (refine Gives.useT (longest (by walk_at "wf") (by walk_at "g") (by walk_at "o") (by omega)) (by k_asm) (by k_asm) ?_; intro _ _ _ _ _)
  k_with "call ref" => (refine Gives.useT (level (by walk_at "wf") (by walk_at "g") (by walk_at "o") (by omega) (by omega) (by omega)) (by k_asm) (by k_asm) ?_; intro _ _ _ _ _)
  k_with "call ref" => (refine Gives.use0 (word (by walk_at "g") (by walk_at "o") (by omega) (by omega) (by omega) (by omega)) (by k_asm) (by k_asm) ?_; intro _ _ _ hv _ _; obtain ⟨_, _, hv, _, _⟩ := hv; subst hv)
  k_with "call ref" => (refine Gives.useT (column (by walk_at "g") (by walk_at "o") (by assumption) (by omega) (by omega) (by omega)) (by k_asm) (by k_asm) ?_; intro _ _ _ _ _)
  k_with "exec Assign cons ListComp" => ((rename Fr _ _ _ _ => lF'); (with_unfolding_all refine' compAssign lF' ?k0 ?ks ?k1 ?k2 ?k3 ?k4 ?k5 ?k6 ?k7 ?_; (case k0 => exact rfl); (case ks => exact rfl); (case k1 => exact rfl); (case k2 => decide); (case k3 => exact rfl); (case k4 => decide); (case k5 => exact rfl); (case k6 => exact rfl); (case k7 => exact rfl); k_whole))
  k_with "call builtin:str.upper" => refine upperE (by assumption) (by omega) ?_
  k_with "call builtin:str.index" => refine SC.index (by assumption) ?_
  k_with "call ref" => (refine Gives.use5 (indent (by walk_at "g") (by walk_at "o") (by omega) (by omega)) (by k_asm) (by k_asm) ?_; intro _ _ _ _ hv _ _ _; obtain ⟨_, hv, _, _⟩ := hv; subst hv)
  k_with "goI" => repeat' ((fail_if_success (with_reducible show wpAny _ _ (execs (Stmt.If _ _ _ _ :: _) _) _ _ _)); (walk_at "st"))
  k_with "wm" => exact wsSub (by k_asm) (by assumption) (by intro p hp; k_mem)
  k_with "call ref" => (refine Gives.use5 (witnessW (by walk_at "wm") (by walk_at "wm") (by walk_at "g") (by walk_at "o") (by walk_at "o") (by assumption) (by assumption) (by omega) (by omega)) (by k_asm) (by k_asm) ?_; intro _ _ _ _ hv _ _ _; obtain ⟨hD', _⟩ := hv; obtain ⟨_, hv⟩ := datRef hD'; subst hv)
  k_with "call ref" => (refine Gives.use5 (witnessLW (by walk_at "wm") (by walk_at "wm") (by walk_at "g") (by walk_at "o") (by walk_at "o") (by assumption) (by assumption) (by omega) (by omega)) (by k_asm) (by k_asm) ?_; intro _ _ _ _ hv _ _ _; obtain ⟨hD', _⟩ := hv; obtain ⟨_, hv⟩ := datRef hD'; subst hv)
  k_with "call ref" => (refine Gives.useE (equalW (by walk_at "wm") (by walk_at "wm") (by walk_at "g") (by walk_at "o") (by walk_at "o") (by assumption) (by assumption)) (by k_asm) (by k_asm) ?_; intro _ _ _ _)
  k_with "call ref" => (refine Gives.useE (lessW (by walk_at "wm") (by walk_at "wm") (by walk_at "g") (by walk_at "o") (by walk_at "o") (by assumption) (by assumption) (by omega) (by omega)) (by k_asm) (by k_asm) ?_; intro _ _ _ _)
  k_with "compareOp NotEq ref ref" => refine neSame (by k_asm) (by assumption) (by intro p hp; k_mem) (by assumption) (by intro p hp; k_mem) (by simp only [Around.deeper, cLine]; omega) ?_
  k_with "compareOp Eq ref ref" => refine eqNil (by k_asm) (by assumption) (by intro p hp; k_mem) (by k_mem) (by simp only [Around.deeper, cLine]; omega) ?_
  k_with "compareOp IsNot bool bool" => refine wpAny_isNot_self (by rfl) ?_
  w_top off
  trivial
theorem seg4a {w : World} {d u : Nat} {fr : Option (List Env)} {g : Option (List Code)} {s₀ s : Shared} {L Dd Dt Dn Da : Addr} {m₀ : Str → Option Value} {A B : Str} {a b : Nat} {o₁ o₂ o₃ o₄ o₅ : Obj} {tl : List (Addr × Obj)}
    {name qual : Str} {params : Arguments} {body : List Stmt} {scope : Scope} {dV kV doc pm cdv ct oc : Value} {an od : Option Addr} {osl : Array (Option Value)}
    (ho : (hd.heap_39 w.params).lookup 130 = some ⟨oc, od, .func (fnOf name qual params body scope dV kV doc pm an cdv ct), osl⟩)
    (G : Gd w s₀.heap) (hroom : d < 870) (hu : u < 8000) (hs : ∃ h tk, s = { s₀ with heap := h, toks := tk }) (C : Cells5 A B a b o₁ o₂ o₃ o₄ o₅)
    (lA : A.length ≤ 4) (lB : B.length ≤ 6) (ha : a ≤ 7) (hb : b ≤ 7)
    (F : Fr s₀.heap L s.heap (ov [(Str.ofString "above", some (.ref Da)), (Str.ofString "unlike", some (.ref Dn)), (Str.ofString "table", some (.ref Dt)), (Str.ofString "due", some (.ref Dd))] m₀)) (N : News s₀.heap L s.heap (cl5 L o₁ o₂ o₃ o₄ o₅ tl)) (hoff : Off5 L tl) (hcalm : Calm tl)
    (K : ∀ h tk m x y tl', (∀ p ∈ tl, p ∈ tl') → WsAt (fun a o => (a, o) ∈ tl') x (st (vals A) a) → WsAt (fun a o => (a, o) ∈ tl') y (st (vals B) b) → Off5 L tl' → Calm tl' →
      Fr s₀.heap L h (ov [(Str.ofString "one", some (.ref x)), (Str.ofString "two", some (.ref y)), (Str.ofString "above", some (.ref Da)), (Str.ofString "unlike", some (.ref Dn)), (Str.ofString "table", some (.ref Dt)), (Str.ofString "due", some (.ref Dd))] m) → News s₀.heap L h (cl5 L o₁ o₂ o₃ o₄ o₅ tl') →
      LawGo w d u fr g qual scope cdv s₀ L (body.drop 12) { s₀ with heap := h, toks := tk }) :
    LawGo w d u fr g qual scope cdv s₀ L (body.drop 11) s := by
  obtain ⟨h, tk, rfl⟩ := hs
  have e := ho.symm.trans (by k_is : (hd.heap_39 w.params).lookup 130 = some ⟨_, _, .func (fnOf _ _ _ _ _ _ _ _ _ _ _ _), _⟩)
  cases e
  obtain ⟨mean, mg, mb, T⟩ := G.T
  have X := G.X
  obtain ⟨⟨v₁, d₁⟩, ⟨tA, d₂⟩, ⟨tB, d₃⟩, ⟨ta, d₄⟩, ⟨tb, d₅⟩⟩ := C
  walk_at "goI"
  rename_i h5 tk1 led1 of1 x1 W1 C1 h4 tk2 led2 of2 x2 W2 C2 D3 h3 l1 h2 h1 h0 F2 N2
  exact K h0 _ _ x1 x2 (led2 ++ (led1 ++ tl)) (fun p hp => List.mem_append_right _ (List.mem_append_right _ hp)) (W1.mono fun _ _ hm => List.mem_append_right _ (List.mem_append_left _ hm)) (W2.mono fun _ _ hm => List.mem_append_left _ hm)
    (of2.append (of1.append hoff)) (C2.append (C1.append hcalm))
    (Fr.ovr F2 (by repeat' (first | exact List.forall_mem_nil _ | refine List.forall_mem_cons.mpr ⟨rfl, ?_⟩))) (fun p hp => N2 p (List.mem_cons_of_mem _ hp))
-- two maps of names are one: the names by computation, the others fall through
-- objects that stood before the call
theorem prep19 : True := by
  k_with_none
  k_with "it" => (simp only [decide_eq_true_eq, beq_iff_eq, bne_iff_ne, ne_eq]; omega)
  k_with "ite" => first | refine ite_neg (by walk_at "it") ?_ | refine ite_pos (by walk_at "it") ?_
  k_with "st" => first | walk1 | (dsimp only; walk1)
  k_with "go" => repeat' ((fail_if_success (with_reducible show wpAny _ _ (pyIter _) _ _ _)); (walk_at "st"))
  k_with "for" => walk_at "real0"
  k_with "exec For Name Attribute cons nil" => (walk_at "for")
  k_with "exec For Name Call cons nil" => (walk_at "for")
  k_with "exec For Name Constant cons nil" => (walk_at "for")
  k_with "calm" => (repeat' (first | exact Calm.nil | refine Calm.cons (by intro vs h; cases h) ?_ | assumption))
  k_with "sub" => (intro p hp; (simp only [List.mem_cons, List.mem_append, List.not_mem_nil, or_false, false_or] at hp ⊢); first | assumption | grind)
  k_with "same map" => exact ov_eq (by (repeat' (first | exact List.forall_mem_nil _ | refine List.forall_mem_cons.mpr ⟨rfl, ?_⟩))) (fun _ _ => rfl)
  k_with "call builtin:len" => refine lenTup (by assumption) (by assumption) (by assumption) (by omega) ?_
  k_with "subscriptTail Name Name ref int" => (refine itemTup (by assumption) (by assumption) (by assumption) (by omega) (by omega) (by omega) ?_; intro _)
  k_with "execs cons Assign cons" => refine wpAny_execs_cons ?_
  k_with "eval ListComp" => ((rename Fr _ _ _ _ => lF'); (with_unfolding_all refine' compEval lF' ?k1 ?k2 ?k3 ?k4 ?k5 ?_; (case k1 => exact rfl); (case k2 => decide); (case k3 => exact rfl); (case k4 => decide); (case k5 => exact rfl); k_whole))
  k_with "o" => first | omega | (simp only [Around.deeper]; omega)
  k_with "g" => exact Gd.fr (by assumption) (by assumption)
  k_with "wf" => exact WsH.fr (by assumption) (by assumption)
  k_with "call ref" => (refine Gives.useT (longest (by walk_at "wf") (by walk_at "g") (by walk_at "o") (by omega)) (by k_asm) (by k_asm) ?_; intro _ _ _ _ _)
  k_with "call ref" => (refine Gives.useT (level (by walk_at "wf") (by walk_at "g") (by walk_at "o") (by omega) (by omega) (by omega)) (by k_asm) (by k_asm) ?_; intro _ _ _ _ _)
  k_with "call ref" => (refine Gives.use0 (word (by walk_at "g") (by walk_at "o") (by omega) (by omega) (by omega) (by omega)) (by k_asm) (by k_asm) ?_; intro _ _ _ hv _ _; obtain ⟨_, _, hv, _, _⟩ := hv; subst hv)
  k_with "call ref" => (refine Gives.useT (column (by walk_at "g") (by walk_at "o") (by assumption) (by omega) (by omega) (by omega)) (by k_asm) (by k_asm) ?_; intro _ _ _ _ _)
  k_with "exec Assign cons ListComp" => ((rename Fr _ _ _ _ => lF'); (with_unfolding_all refine' compAssign lF' ?k0 ?ks ?k1 ?k2 ?k3 ?k4 ?k5 ?k6 ?k7 ?_; (case k0 => exact rfl); (case ks => exact rfl); (case k1 => exact rfl); (case k2 => decide); (case k3 => exact rfl); (case k4 => decide); (case k5 => exact rfl); (case k6 => exact rfl); (case k7 => exact rfl); k_whole))
  k_with "call builtin:str.upper" => refine upperE (by assumption) (by omega) ?_
  k_with "call builtin:str.index" => refine SC.index (by assumption) ?_
  k_with "call ref" => (refine Gives.use5 (indent (by walk_at "g") (by walk_at "o") (by omega) (by omega)) (by k_asm) (by k_asm) ?_; intro _ _ _ _ hv _ _ _; obtain ⟨_, hv, _, _⟩ := hv; subst hv)
  k_with "goI" => repeat' ((fail_if_success (with_reducible show wpAny _ _ (execs (Stmt.If _ _ _ _ :: _) _) _ _ _)); (walk_at "st"))
  k_with "wm" => exact wsSub (by k_asm) (by assumption) (by intro p hp; k_mem)
  k_with "call ref" => (refine Gives.use5 (witnessW (by walk_at "wm") (by walk_at "wm") (by walk_at "g") (by walk_at "o") (by walk_at "o") (by assumption) (by assumption) (by omega) (by omega)) (by k_asm) (by k_asm) ?_; intro _ _ _ _ hv _ _ _; obtain ⟨hD', _⟩ := hv; obtain ⟨_, hv⟩ := datRef hD'; subst hv)
  k_with "call ref" => (refine Gives.use5 (witnessLW (by walk_at "wm") (by walk_at "wm") (by walk_at "g") (by walk_at "o") (by walk_at "o") (by assumption) (by assumption) (by omega) (by omega)) (by k_asm) (by k_asm) ?_; intro _ _ _ _ hv _ _ _; obtain ⟨hD', _⟩ := hv; obtain ⟨_, hv⟩ := datRef hD'; subst hv)
  k_with "call ref" => (refine Gives.useE (equalW (by walk_at "wm") (by walk_at "wm") (by walk_at "g") (by walk_at "o") (by walk_at "o") (by assumption) (by assumption)) (by k_asm) (by k_asm) ?_; intro _ _ _ _)
  k_with "call ref" => (refine Gives.useE (lessW (by walk_at "wm") (by walk_at "wm") (by walk_at "g") (by walk_at "o") (by walk_at "o") (by assumption) (by assumption) (by omega) (by omega)) (by k_asm) (by k_asm) ?_; intro _ _ _ _)
  k_with "compareOp NotEq ref ref" => refine neSame (by k_asm) (by assumption) (by intro p hp; k_mem) (by assumption) (by intro p hp; k_mem) (by simp only [Around.deeper, cLine]; omega) ?_
  k_with "compareOp Eq ref ref" => refine eqNil (by k_asm) (by assumption) (by intro p hp; k_mem) (by k_mem) (by simp only [Around.deeper, cLine]; omega) ?_
  k_with "compareOp IsNot bool bool" => refine wpAny_isNot_self (by rfl) ?_
  w_top off
  trivial
theorem seg4b {w : World} {d u : Nat} {fr : Option (List Env)} {g : Option (List Code)} {s₀ s : Shared} {L Dd Dt Dn Da x y : Addr} {m₀ : Str → Option Value} {A B : Str} {a b : Nat} {o₁ o₂ o₃ o₄ o₅ : Obj} {tl : List (Addr × Obj)}
    {name qual : Str} {params : Arguments} {body : List Stmt} {scope : Scope} {dV kV doc pm cdv ct oc : Value} {an od : Option Addr} {osl : Array (Option Value)}
    (ho : (hd.heap_39 w.params).lookup 130 = some ⟨oc, od, .func (fnOf name qual params body scope dV kV doc pm an cdv ct), osl⟩)
    (G : Gd w s₀.heap) (hroom : d < 870) (hu : u < 8000) (hs : ∃ h tk, s = { s₀ with heap := h, toks := tk }) (C : Cells5 A B a b o₁ o₂ o₃ o₄ o₅)
    (hA : Word A) (hB : Word B) (lA : A.length ≤ 4) (lB : B.length ≤ 6) (ha : a ≤ 7) (hb : b ≤ 7)
    (F : Fr s₀.heap L s.heap (ov [(Str.ofString "one", some (.ref x)), (Str.ofString "two", some (.ref y)), (Str.ofString "above", some (.ref Da)), (Str.ofString "unlike", some (.ref Dn)), (Str.ofString "table", some (.ref Dt)), (Str.ofString "due", some (.ref Dd))] m₀)) (N : News s₀.heap L s.heap (cl5 L o₁ o₂ o₃ o₄ o₅ tl))
    (hW : WsAt (fun a o => (a, o) ∈ tl) x (st (vals A) a)) (hV : WsAt (fun a o => (a, o) ∈ tl) y (st (vals B) b))
    (hUn : DatIn tl (.ref Dn) (rowsD (unlike (table (st (vals A) a) (st (vals B) b) (reach (st (vals A) a) (st (vals B) b)).toNat))))
    (K : ∀ h tk, Fr s₀.heap L h (ov [(Str.ofString "one", some (.ref x)), (Str.ofString "two", some (.ref y)), (Str.ofString "above", some (.ref Da)), (Str.ofString "unlike", some (.ref Dn)), (Str.ofString "table", some (.ref Dt)), (Str.ofString "due", some (.ref Dd))] m₀) → News s₀.heap L h (cl5 L o₁ o₂ o₃ o₄ o₅ tl) →
      LawGo w d u fr g qual scope cdv s₀ L (body.drop 13) { s₀ with heap := h, toks := tk }) :
    LawGo w d u fr g qual scope cdv s₀ L (body.drop 12) s := by
  obtain ⟨h, tk, rfl⟩ := hs
  have e := ho.symm.trans (by k_is : (hd.heap_39 w.params).lookup 130 = some ⟨_, _, .func (fnOf _ _ _ _ _ _ _ _ _ _ _ _), _⟩)
  cases e
  obtain ⟨mean, mg, mb, T⟩ := G.T
  have X := G.X
  obtain ⟨⟨v₁, d₁⟩, ⟨tA, d₂⟩, ⟨tB, d₃⟩, ⟨ta, d₄⟩, ⟨tb, d₅⟩⟩ := C
  have hv9 := vals_le hA
  have hw9 := vals_le hB
  obtain ⟨P, e1, e2⟩ := hW.inst
  obtain ⟨P', f1, f2⟩ := hV.inst
  refine wpAny_execs_cons ?_
  walk_at "goI"
  · rename (_ != _) = true => hx
    simp at hx
  · refine K _ _ (by assumption) (fun p hp => ?_)
    rename News _ _ _ _ => nN'
    exact nN' p (by simp only [List.mem_cons, List.mem_append] at hp ⊢; grind)
-- two maps of names are one: the names by computation, the others fall through
-- objects that stood before the call
theorem prep20 : True := by
  k_with_none
  k_with "it" => (simp only [decide_eq_true_eq, beq_iff_eq, bne_iff_ne, ne_eq]; omega)
  k_with "ite" => first | refine ite_neg (by walk_at "it") ?_ | refine ite_pos (by walk_at "it") ?_
  k_with "st" => first | walk1 | (dsimp only; walk1)
  k_with "go" => repeat' ((fail_if_success (with_reducible show wpAny _ _ (pyIter _) _ _ _)); (walk_at "st"))
  k_with "for" => walk_at "real0"
  k_with "exec For Name Attribute cons nil" => (walk_at "for")
  k_with "exec For Name Call cons nil" => (walk_at "for")
  k_with "exec For Name Constant cons nil" => (walk_at "for")
  k_with "calm" => (repeat' (first | exact Calm.nil | refine Calm.cons (by intro vs h; cases h) ?_ | assumption))
  k_with "sub" => (intro p hp; (simp only [List.mem_cons, List.mem_append, List.not_mem_nil, or_false, false_or] at hp ⊢); first | assumption | grind)
  k_with "same map" => exact ov_eq (by (repeat' (first | exact List.forall_mem_nil _ | refine List.forall_mem_cons.mpr ⟨rfl, ?_⟩))) (fun _ _ => rfl)
  k_with "call builtin:len" => refine lenTup (by assumption) (by assumption) (by assumption) (by omega) ?_
  k_with "subscriptTail Name Name ref int" => (refine itemTup (by assumption) (by assumption) (by assumption) (by omega) (by omega) (by omega) ?_; intro _)
  k_with "execs cons Assign cons" => refine wpAny_execs_cons ?_
  k_with "eval ListComp" => ((rename Fr _ _ _ _ => lF'); (with_unfolding_all refine' compEval lF' ?k1 ?k2 ?k3 ?k4 ?k5 ?_; (case k1 => exact rfl); (case k2 => decide); (case k3 => exact rfl); (case k4 => decide); (case k5 => exact rfl); k_whole))
  k_with "o" => first | omega | (simp only [Around.deeper]; omega)
  k_with "g" => exact Gd.fr (by assumption) (by assumption)
  k_with "wf" => exact WsH.fr (by assumption) (by assumption)
  k_with "call ref" => (refine Gives.useT (longest (by walk_at "wf") (by walk_at "g") (by walk_at "o") (by omega)) (by k_asm) (by k_asm) ?_; intro _ _ _ _ _)
  k_with "call ref" => (refine Gives.useT (level (by walk_at "wf") (by walk_at "g") (by walk_at "o") (by omega) (by omega) (by omega)) (by k_asm) (by k_asm) ?_; intro _ _ _ _ _)
  k_with "call ref" => (refine Gives.use0 (word (by walk_at "g") (by walk_at "o") (by omega) (by omega) (by omega) (by omega)) (by k_asm) (by k_asm) ?_; intro _ _ _ hv _ _; obtain ⟨_, _, hv, _, _⟩ := hv; subst hv)
  k_with "call ref" => (refine Gives.useT (column (by walk_at "g") (by walk_at "o") (by assumption) (by omega) (by omega) (by omega)) (by k_asm) (by k_asm) ?_; intro _ _ _ _ _)
  k_with "exec Assign cons ListComp" => ((rename Fr _ _ _ _ => lF'); (with_unfolding_all refine' compAssign lF' ?k0 ?ks ?k1 ?k2 ?k3 ?k4 ?k5 ?k6 ?k7 ?_; (case k0 => exact rfl); (case ks => exact rfl); (case k1 => exact rfl); (case k2 => decide); (case k3 => exact rfl); (case k4 => decide); (case k5 => exact rfl); (case k6 => exact rfl); (case k7 => exact rfl); k_whole))
  k_with "call builtin:str.upper" => refine upperE (by assumption) (by omega) ?_
  k_with "call builtin:str.index" => refine SC.index (by assumption) ?_
  k_with "call ref" => (refine Gives.use5 (indent (by walk_at "g") (by walk_at "o") (by omega) (by omega)) (by k_asm) (by k_asm) ?_; intro _ _ _ _ hv _ _ _; obtain ⟨_, hv, _, _⟩ := hv; subst hv)
  k_with "goI" => repeat' ((fail_if_success (with_reducible show wpAny _ _ (execs (Stmt.If _ _ _ _ :: _) _) _ _ _)); (walk_at "st"))
  k_with "wm" => exact wsSub (by k_asm) (by assumption) (by intro p hp; k_mem)
  k_with "call ref" => (refine Gives.use5 (witnessW (by walk_at "wm") (by walk_at "wm") (by walk_at "g") (by walk_at "o") (by walk_at "o") (by assumption) (by assumption) (by omega) (by omega)) (by k_asm) (by k_asm) ?_; intro _ _ _ _ hv _ _ _; obtain ⟨hD', _⟩ := hv; obtain ⟨_, hv⟩ := datRef hD'; subst hv)
  k_with "call ref" => (refine Gives.use5 (witnessLW (by walk_at "wm") (by walk_at "wm") (by walk_at "g") (by walk_at "o") (by walk_at "o") (by assumption) (by assumption) (by omega) (by omega)) (by k_asm) (by k_asm) ?_; intro _ _ _ _ hv _ _ _; obtain ⟨hD', _⟩ := hv; obtain ⟨_, hv⟩ := datRef hD'; subst hv)
  k_with "call ref" => (refine Gives.useE (equalW (by walk_at "wm") (by walk_at "wm") (by walk_at "g") (by walk_at "o") (by walk_at "o") (by assumption) (by assumption)) (by k_asm) (by k_asm) ?_; intro _ _ _ _)
  k_with "call ref" => (refine Gives.useE (lessW (by walk_at "wm") (by walk_at "wm") (by walk_at "g") (by walk_at "o") (by walk_at "o") (by assumption) (by assumption) (by omega) (by omega)) (by k_asm) (by k_asm) ?_; intro _ _ _ _)
  k_with "compareOp NotEq ref ref" => refine neSame (by k_asm) (by assumption) (by intro p hp; k_mem) (by assumption) (by intro p hp; k_mem) (by simp only [Around.deeper, cLine]; omega) ?_
  k_with "compareOp Eq ref ref" => refine eqNil (by k_asm) (by assumption) (by intro p hp; k_mem) (by k_mem) (by simp only [Around.deeper, cLine]; omega) ?_
  k_with "compareOp IsNot bool bool" => refine wpAny_isNot_self (by rfl) ?_
  w_top off
  trivial
theorem seg4c {w : World} {d u : Nat} {fr : Option (List Env)} {g : Option (List Code)} {s₀ s : Shared} {L Dd Dt Dn Da x y : Addr} {m₀ : Str → Option Value} {A B : Str} {a b : Nat} {o₁ o₂ o₃ o₄ o₅ : Obj} {tl : List (Addr × Obj)}
    {name qual : Str} {params : Arguments} {body : List Stmt} {scope : Scope} {dV kV doc pm cdv ct oc : Value} {an od : Option Addr} {osl : Array (Option Value)}
    (ho : (hd.heap_39 w.params).lookup 130 = some ⟨oc, od, .func (fnOf name qual params body scope dV kV doc pm an cdv ct), osl⟩)
    (G : Gd w s₀.heap) (hroom : d < 870) (hu : u < 8000) (hs : ∃ h tk, s = { s₀ with heap := h, toks := tk }) (C : Cells5 A B a b o₁ o₂ o₃ o₄ o₅)
    (hA : Word A) (hB : Word B) (lA : A.length ≤ 4) (lB : B.length ≤ 6) (ha : a ≤ 7) (hb : b ≤ 7)
    (F : Fr s₀.heap L s.heap (ov [(Str.ofString "one", some (.ref x)), (Str.ofString "two", some (.ref y)), (Str.ofString "above", some (.ref Da)), (Str.ofString "unlike", some (.ref Dn)), (Str.ofString "table", some (.ref Dt)), (Str.ofString "due", some (.ref Dd))] m₀)) (N : News s₀.heap L s.heap (cl5 L o₁ o₂ o₃ o₄ o₅ tl))
    (hW : WsAt (fun a o => (a, o) ∈ tl) x (st (vals A) a)) (hV : WsAt (fun a o => (a, o) ∈ tl) y (st (vals B) b))
    (hAb : DatIn tl (.ref Da) (rowsD (above (table (st (vals A) a) (st (vals B) b) (reach (st (vals A) a) (st (vals B) b)).toNat))))
    (K : ∀ h tk, Fr s₀.heap L h (ov [(Str.ofString "one", some (.ref x)), (Str.ofString "two", some (.ref y)), (Str.ofString "above", some (.ref Da)), (Str.ofString "unlike", some (.ref Dn)), (Str.ofString "table", some (.ref Dt)), (Str.ofString "due", some (.ref Dd))] m₀) → News s₀.heap L h (cl5 L o₁ o₂ o₃ o₄ o₅ tl) →
      LawGo w d u fr g qual scope cdv s₀ L (body.drop 14) { s₀ with heap := h, toks := tk }) :
    LawGo w d u fr g qual scope cdv s₀ L (body.drop 13) s := by
  obtain ⟨h, tk, rfl⟩ := hs
  have e := ho.symm.trans (by k_is : (hd.heap_39 w.params).lookup 130 = some ⟨_, _, .func (fnOf _ _ _ _ _ _ _ _ _ _ _ _), _⟩)
  cases e
  obtain ⟨mean, mg, mb, T⟩ := G.T
  have X := G.X
  obtain ⟨⟨v₁, d₁⟩, ⟨tA, d₂⟩, ⟨tB, d₃⟩, ⟨ta, d₄⟩, ⟨tb, d₅⟩⟩ := C
  have hv9 := vals_le hA
  have hw9 := vals_le hB
  obtain ⟨P, e1, e2⟩ := hW.inst
  obtain ⟨P', f1, f2⟩ := hV.inst
  refine wpAny_execs_cons ?_
  walk_at "goI"
  · rename (_ != _) = true => hx
    simp at hx
  · refine K _ _ (by assumption) (fun p hp => ?_)
    rename News _ _ _ _ => nN'
    exact nN' p (by simp only [List.mem_cons, List.mem_append] at hp ⊢; grind)
-- two maps of names are one: the names by computation, the others fall through
-- objects that stood before the call
theorem prep21 : True := by
  k_with_none
  k_with "it" => (simp only [decide_eq_true_eq, beq_iff_eq, bne_iff_ne, ne_eq]; omega)
  k_with "ite" => first | refine ite_neg (by walk_at "it") ?_ | refine ite_pos (by walk_at "it") ?_
  k_with "st" => first | walk1 | (dsimp only; walk1)
  k_with "go" => repeat' ((fail_if_success (with_reducible show wpAny _ _ (pyIter _) _ _ _)); (walk_at "st"))
  k_with "for" => walk_at "real0"
  k_with "exec For Name Attribute cons nil" => (walk_at "for")
  k_with "exec For Name Call cons nil" => (walk_at "for")
  k_with "exec For Name Constant cons nil" => (walk_at "for")
  k_with "calm" => (repeat' (first | exact Calm.nil | refine Calm.cons (by intro vs h; cases h) ?_ | assumption))
  k_with "sub" => (intro p hp; (simp only [List.mem_cons, List.mem_append, List.not_mem_nil, or_false, false_or] at hp ⊢); first | assumption | grind)
  k_with "same map" => exact ov_eq (by (repeat' (first | exact List.forall_mem_nil _ | refine List.forall_mem_cons.mpr ⟨rfl, ?_⟩))) (fun _ _ => rfl)
  k_with "call builtin:len" => refine lenTup (by assumption) (by assumption) (by assumption) (by omega) ?_
  k_with "subscriptTail Name Name ref int" => (refine itemTup (by assumption) (by assumption) (by assumption) (by omega) (by omega) (by omega) ?_; intro _)
  k_with "execs cons Assign cons" => refine wpAny_execs_cons ?_
  k_with "eval ListComp" => ((rename Fr _ _ _ _ => lF'); (with_unfolding_all refine' compEval lF' ?k1 ?k2 ?k3 ?k4 ?k5 ?_; (case k1 => exact rfl); (case k2 => decide); (case k3 => exact rfl); (case k4 => decide); (case k5 => exact rfl); k_whole))
  k_with "o" => first | omega | (simp only [Around.deeper]; omega)
  k_with "g" => exact Gd.fr (by assumption) (by assumption)
  k_with "wf" => exact WsH.fr (by assumption) (by assumption)
  k_with "call ref" => (refine Gives.useT (longest (by walk_at "wf") (by walk_at "g") (by walk_at "o") (by omega)) (by k_asm) (by k_asm) ?_; intro _ _ _ _ _)
  k_with "call ref" => (refine Gives.useT (level (by walk_at "wf") (by walk_at "g") (by walk_at "o") (by omega) (by omega) (by omega)) (by k_asm) (by k_asm) ?_; intro _ _ _ _ _)
  k_with "call ref" => (refine Gives.use0 (word (by walk_at "g") (by walk_at "o") (by omega) (by omega) (by omega) (by omega)) (by k_asm) (by k_asm) ?_; intro _ _ _ hv _ _; obtain ⟨_, _, hv, _, _⟩ := hv; subst hv)
  k_with "call ref" => (refine Gives.useT (column (by walk_at "g") (by walk_at "o") (by assumption) (by omega) (by omega) (by omega)) (by k_asm) (by k_asm) ?_; intro _ _ _ _ _)
  k_with "exec Assign cons ListComp" => ((rename Fr _ _ _ _ => lF'); (with_unfolding_all refine' compAssign lF' ?k0 ?ks ?k1 ?k2 ?k3 ?k4 ?k5 ?k6 ?k7 ?_; (case k0 => exact rfl); (case ks => exact rfl); (case k1 => exact rfl); (case k2 => decide); (case k3 => exact rfl); (case k4 => decide); (case k5 => exact rfl); (case k6 => exact rfl); (case k7 => exact rfl); k_whole))
  k_with "call builtin:str.upper" => refine upperE (by assumption) (by omega) ?_
  k_with "call builtin:str.index" => refine SC.index (by assumption) ?_
  k_with "call ref" => (refine Gives.use5 (indent (by walk_at "g") (by walk_at "o") (by omega) (by omega)) (by k_asm) (by k_asm) ?_; intro _ _ _ _ hv _ _ _; obtain ⟨_, hv, _, _⟩ := hv; subst hv)
  k_with "goI" => repeat' ((fail_if_success (with_reducible show wpAny _ _ (execs (Stmt.If _ _ _ _ :: _) _) _ _ _)); (walk_at "st"))
  k_with "wm" => exact wsSub (by k_asm) (by assumption) (by intro p hp; k_mem)
  k_with "call ref" => (refine Gives.use5 (witnessW (by walk_at "wm") (by walk_at "wm") (by walk_at "g") (by walk_at "o") (by walk_at "o") (by assumption) (by assumption) (by omega) (by omega)) (by k_asm) (by k_asm) ?_; intro _ _ _ _ hv _ _ _; obtain ⟨hD', _⟩ := hv; obtain ⟨_, hv⟩ := datRef hD'; subst hv)
  k_with "call ref" => (refine Gives.use5 (witnessLW (by walk_at "wm") (by walk_at "wm") (by walk_at "g") (by walk_at "o") (by walk_at "o") (by assumption) (by assumption) (by omega) (by omega)) (by k_asm) (by k_asm) ?_; intro _ _ _ _ hv _ _ _; obtain ⟨hD', _⟩ := hv; obtain ⟨_, hv⟩ := datRef hD'; subst hv)
  k_with "call ref" => (refine Gives.useE (equalW (by walk_at "wm") (by walk_at "wm") (by walk_at "g") (by walk_at "o") (by walk_at "o") (by assumption) (by assumption)) (by k_asm) (by k_asm) ?_; intro _ _ _ _)
  k_with "call ref" => (refine Gives.useE (lessW (by walk_at "wm") (by walk_at "wm") (by walk_at "g") (by walk_at "o") (by walk_at "o") (by assumption) (by assumption) (by omega) (by omega)) (by k_asm) (by k_asm) ?_; intro _ _ _ _)
  k_with "compareOp NotEq ref ref" => refine neSame (by k_asm) (by assumption) (by intro p hp; k_mem) (by assumption) (by intro p hp; k_mem) (by simp only [Around.deeper, cLine]; omega) ?_
  k_with "compareOp Eq ref ref" => refine eqNil (by k_asm) (by assumption) (by intro p hp; k_mem) (by k_mem) (by simp only [Around.deeper, cLine]; omega) ?_
  k_with "compareOp IsNot bool bool" => refine wpAny_isNot_self (by rfl) ?_
  k_with "eval ListComp" => ((rename Fr _ _ _ _ => lF'); (with_unfolding_all refine' LCt.ListComp_T lF' ?k1 ?k2 ?k3 ?k4 ?k5 ?_; (case k1 => exact rfl); (case k2 => decide); (case k3 => exact rfl); (case k4 => decide); (case k5 => exact rfl); k_whole))
  k_with "goA" => repeat' ((fail_if_success (with_reducible show wpAny _ _ (execs (Stmt.Assign _ _ _ :: _) _) _ _ _)); (walk_at "st"))
  k_with "goC" => repeat' ((fail_if_success (with_reducible show LCt.CompSrcT _ _ _ _ _ _ _ _ _ _ _ _ _ _ _)); (walk_at "st"))
  k_with "call ref" => (refine Gives.useE (lessW' (by walk_at "wm") (by walk_at "wm") (by walk_at "g") (by walk_at "o") (by walk_at "o") (by assumption) (by assumption) (by omega) (by omega)) (by k_asm) (by k_asm) ?_; intro _ _ _ _)
  w_top off
  trivial
theorem seg4d {w : World} {d u : Nat} {fr : Option (List Env)} {g : Option (List Code)} {s₀ s : Shared} {L Dd Dt Dn Da x y : Addr} {m₀ : Str → Option Value} {A B : Str} {a b : Nat} {o₁ o₂ o₃ o₄ o₅ : Obj} {tl : List (Addr × Obj)}
    {name qual : Str} {params : Arguments} {body : List Stmt} {scope : Scope} {dV kV doc pm cdv ct oc : Value} {an od : Option Addr} {osl : Array (Option Value)}
    (ho : (hd.heap_39 w.params).lookup 130 = some ⟨oc, od, .func (fnOf name qual params body scope dV kV doc pm an cdv ct), osl⟩)
    (G : Gd w s₀.heap) (hroom : d < 870) (hu : u < 8000) (hs : ∃ h tk, s = { s₀ with heap := h, toks := tk }) (C : Cells5 A B a b o₁ o₂ o₃ o₄ o₅)
    (hA : Word A) (hB : Word B) (lA : A.length ≤ 4) (lB : B.length ≤ 6) (ha : a ≤ 7) (hb : b ≤ 7)
    (F : Fr s₀.heap L s.heap (ov [(Str.ofString "one", some (.ref x)), (Str.ofString "two", some (.ref y)), (Str.ofString "above", some (.ref Da)), (Str.ofString "unlike", some (.ref Dn)), (Str.ofString "table", some (.ref Dt)), (Str.ofString "due", some (.ref Dd))] m₀)) (N : News s₀.heap L s.heap (cl5 L o₁ o₂ o₃ o₄ o₅ tl))
    (hW : WsAt (fun a o => (a, o) ∈ tl) x (st (vals A) a)) (hV : WsAt (fun a o => (a, o) ∈ tl) y (st (vals B) b))
    {rows : List Row} (hrows : rows = table (st (vals A) a) (st (vals B) b) (reach (st (vals A) a) (st (vals B) b)).toNat) (hrl : rows.length ≤ 1000) (htab : DatIn tl (.ref Dt) (rowsD rows))
    (K : ∀ h tk, Fr s₀.heap L h (ov [(Str.ofString "one", some (.ref x)), (Str.ofString "two", some (.ref y)), (Str.ofString "above", some (.ref Da)), (Str.ofString "unlike", some (.ref Dn)), (Str.ofString "table", some (.ref Dt)), (Str.ofString "due", some (.ref Dd))] m₀) → News s₀.heap L h (cl5 L o₁ o₂ o₃ o₄ o₅ tl) →
      LawGo w d u fr g qual scope cdv s₀ L (body.drop 15) { s₀ with heap := h, toks := tk }) :
    LawGo w d u fr g qual scope cdv s₀ L (body.drop 14) s := by
  obtain ⟨h, tk, rfl⟩ := hs
  have e := ho.symm.trans (by k_is : (hd.heap_39 w.params).lookup 130 = some ⟨_, _, .func (fnOf _ _ _ _ _ _ _ _ _ _ _ _), _⟩)
  cases e
  obtain ⟨mean, mg, mb, T⟩ := G.T
  have X := G.X
  obtain ⟨⟨v₁, d₁⟩, ⟨tA, d₂⟩, ⟨tB, d₃⟩, ⟨ta, d₄⟩, ⟨tb, d₅⟩⟩ := C
  have hv9 := vals_le hA
  have hw9 := vals_le hB
  obtain ⟨P, e1, e2⟩ := hW.inst
  obtain ⟨P', f1, f2⟩ := hV.inst
  obtain ⟨us, kt, hmt, hdt⟩ : ∃ us k, (Dt, W.listOf us.toArray k) ∈ tl ∧ DatAll tl us (rows.map rowD) := by
    cases htab with
    | list hm hd => exact ⟨_, _, hm, hd⟩
  have hul : us.length = rows.length := by have := hdt.length; simpa using this
  refine wpAny_execs_cons ?_
  walk_at "goC"
  refine LCt.CompSrcT.ledger (its := us.toArray) (k := kt) rfl (by assumption) (by assumption) (List.mem_append_right [_, _, _, _, _] hmt) (by rw [List.size_toArray, sizeLine_eq]; omega) (fun g => ?_)
  refine compIndT (fun i ys news => news = cl5 L o₁ o₂ o₃ o₄ o₅ tl ∧ DatAll tl ys ((below (rows.take i)).map rowD)) ?_ ?_ _ _ _ _ (Nat.zero_add _) ⟨rfl, .nil⟩
  · rintro i ys news hi ⟨rfl, hys⟩ v I oI C oC D m₂ h tk₁ E' hv hN hm F1 N1 ho hne
    obtain ⟨r, a, n, t1, t2, t3, hr, rfl, hmem⟩ := rowGet hdt (by simpa using hv)
    rw [take_snoc hr]
    have hsrc : LCg.SrcAt s₀.heap Dt us.toArray (cl5 L o₁ o₂ o₃ o₄ o₅ tl) := .inr ⟨_, List.mem_append_right [_, _, _, _, _] hmt, rfl, _, rfl⟩
    walk_at "go"
    · rename ((_ : Int) ≤ _) => hc
      refine LCg.CompEnd.intro F1 N1 (cl5 L o₁ o₂ o₃ o₄ o₅ tl) (fun p hp => hp) ho hsrc ⟨rfl, ?_⟩
      rw [show below (rows.take i ++ [r]) = below (rows.take i) ++ [r] by simp [below, List.filter_append, hc], List.map_append]
      exact hys.append (.one (.tuple hmem (.cons (.int _ _) (.cons (.int _ _) (.cons (.int _ _) .nil)))))
    · rename ¬ ((_ : Int) ≤ _) => hc
      have hc' : r.2.2 < r.2.1 := by omega
      refine LCg.CompEnd.intro F1 N1 (cl5 L o₁ o₂ o₃ o₄ o₅ tl) (fun p hp => hp) ho hsrc ⟨rfl, ?_⟩
      rw [show below (rows.take i ++ [r]) = below (rows.take i) by simp [below, List.filter_append, hc']]
      exact hys
  · rintro ys news ⟨rfl, hys⟩ D h tk₁ F1 N1 ho
    rw [List.take_of_length_le (by rw [List.size_toArray]; omega)] at hys
    have hD : DatIn ((D, LCg.lst ys) :: tl) (.ref D) (rowsD (below rows)) := .list List.mem_cons_self (hys.mono (fun _ h => List.mem_cons_of_mem _ h))
    rw [hrows] at hD
    walk_at "goA"
    · rename (_ != _) = true => hx
      rw [hrows] at hx
      simp at hx
    · refine K _ _ (by assumption) (fun p hp => ?_)
      rename News _ _ _ _ => nN'
      exact nN' p (by simp only [List.mem_cons, List.mem_append] at hp ⊢; grind)
section
-- two maps of names are one: the names by computation, the others fall through
-- objects that stood before the call
local macro_rules | `(tactic| k_all) => `(tactic| first | assumption | (refine List.forall_mem_append.mpr ⟨?_, ?_⟩ <;> k_all) | (refine List.forall_mem_cons.mpr ⟨neN (by dsimp only; omega), ?_⟩; k_all))
theorem prep22 : True := by
  k_with_none
  k_with "it" => (simp only [decide_eq_true_eq, beq_iff_eq, bne_iff_ne, ne_eq]; omega)
  k_with "ite" => first | refine ite_neg (by walk_at "it") ?_ | refine ite_pos (by walk_at "it") ?_
  k_with "st" => first | walk1 | (dsimp only; walk1)
  k_with "go" => repeat' ((fail_if_success (with_reducible show wpAny _ _ (pyIter _) _ _ _)); (walk_at "st"))
  k_with "for" => walk_at "real0"
  k_with "exec For Name Attribute cons nil" => (walk_at "for")
  k_with "exec For Name Call cons nil" => (walk_at "for")
  k_with "exec For Name Constant cons nil" => (walk_at "for")
  k_with "calm" => (repeat' (first | exact Calm.nil | refine Calm.cons (by intro vs h; cases h) ?_ | assumption))
  k_with "sub" => (intro p hp; (simp only [List.mem_cons, List.mem_append, List.not_mem_nil, or_false, false_or] at hp ⊢); first | assumption | grind)
  k_with "same map" => exact ov_eq (by (repeat' (first | exact List.forall_mem_nil _ | refine List.forall_mem_cons.mpr ⟨rfl, ?_⟩))) (fun _ _ => rfl)
  k_with "call builtin:len" => refine lenTup (by assumption) (by assumption) (by assumption) (by omega) ?_
  k_with "subscriptTail Name Name ref int" => (refine itemTup (by assumption) (by assumption) (by assumption) (by omega) (by omega) (by omega) ?_; intro _)
  k_with "execs cons Assign cons" => refine wpAny_execs_cons ?_
  k_with "eval ListComp" => ((rename Fr _ _ _ _ => lF'); (with_unfolding_all refine' compEval lF' ?k1 ?k2 ?k3 ?k4 ?k5 ?_; (case k1 => exact rfl); (case k2 => decide); (case k3 => exact rfl); (case k4 => decide); (case k5 => exact rfl); k_whole))
  k_with "o" => first | omega | (simp only [Around.deeper]; omega)
  k_with "g" => exact Gd.fr (by assumption) (by assumption)
  k_with "wf" => exact WsH.fr (by assumption) (by assumption)
  k_with "call ref" => (refine Gives.useT (longest (by walk_at "wf") (by walk_at "g") (by walk_at "o") (by omega)) (by k_asm) (by k_asm) ?_; intro _ _ _ _ _)
  k_with "call ref" => (refine Gives.useT (level (by walk_at "wf") (by walk_at "g") (by walk_at "o") (by omega) (by omega) (by omega)) (by k_asm) (by k_asm) ?_; intro _ _ _ _ _)
  k_with "call ref" => (refine Gives.use0 (word (by walk_at "g") (by walk_at "o") (by omega) (by omega) (by omega) (by omega)) (by k_asm) (by k_asm) ?_; intro _ _ _ hv _ _; obtain ⟨_, _, hv, _, _⟩ := hv; subst hv)
  k_with "call ref" => (refine Gives.useT (column (by walk_at "g") (by walk_at "o") (by assumption) (by omega) (by omega) (by omega)) (by k_asm) (by k_asm) ?_; intro _ _ _ _ _)
  k_with "exec Assign cons ListComp" => ((rename Fr _ _ _ _ => lF'); (with_unfolding_all refine' compAssign lF' ?k0 ?ks ?k1 ?k2 ?k3 ?k4 ?k5 ?k6 ?k7 ?_; (case k0 => exact rfl); (case ks => exact rfl); (case k1 => exact rfl); (case k2 => decide); (case k3 => exact rfl); (case k4 => decide); (case k5 => exact rfl); (case k6 => exact rfl); (case k7 => exact rfl); k_whole))
  k_with "call builtin:str.upper" => refine upperE (by assumption) (by omega) ?_
  k_with "mx" => first | assumption | (refine List.mem_append_right _ ?_; walk_at "mx") | (refine List.mem_append_left _ ?_; walk_at "mx") | (refine List.mem_cons_of_mem _ ?_; walk_at "mx")
  k_with "goI" => repeat' ((fail_if_success (with_reducible show wpAny _ _ (execs (Stmt.If _ _ _ _ :: _) _) _ _ _)); (walk_at "st"))
  k_with "n6" => first | k_asm | exact rot6 (by k_asm) | exact rot6 (rot6b (by k_asm))
  k_with "call ref" => (refine Gives.use6 (indent (by walk_at "g") (by walk_at "o") (by omega) (by omega)) (by k_asm) (by walk_at "n6") ?_; intro _ _ _ _ hv _ _ _ _ _ _; obtain ⟨_, hv, hW', _⟩ := hv; subst hv; obtain ⟨_, _, _⟩ := hW'.inst)
  k_with "ws" => exact wsSub (by k_asm) (by assumption) (by intro p hp; walk_at "mx")
  k_with "call ref" => (refine Gives.use6 (witnessW (by walk_at "ws") (by walk_at "ws") (by walk_at "g") (by walk_at "o") (by walk_at "o") (by assumption) (by assumption) (by omega) (by omega)) (by k_asm) (by walk_at "n6") ?_; intro _ _ _ _ hv _ _ _ _ _ _; obtain ⟨hD', _⟩ := hv; obtain ⟨_, hv⟩ := datRef hD'; subst hv)
  k_with "call ref" => (refine Gives.useE (equalW (by walk_at "ws") (by walk_at "ws") (by walk_at "g") (by walk_at "o") (by walk_at "o") (by assumption) (by assumption)) (by k_asm) (by k_asm) ?_; intro _ _ _ _)
  k_with "call ref" => (refine Gives.useT (longestW (by walk_at "ws") (by walk_at "g") (by walk_at "o") (by assumption)) (by k_asm) (by k_asm) ?_; intro _ _ _ _ _)
  k_with "call ref nil" => (refine Gives.useT (longestW (by walk_at "ws") (by walk_at "g") (by walk_at "o") (by assumption)) (by k_asm) (by k_asm) ?_; intro _ _ _ _ _)
  k_with "call ref" => (refine Gives.useT (unctrl_int (by walk_at "g") (by walk_at "o") (by omega) (by omega)) (by k_asm) (by k_asm) ?_; intro _ _ _ _ _)
  k_with "compareOp Eq ref ref" => refine eqNil (by k_asm) (by with_reducible assumption) (by intro p hp; walk_at "mx") (by k_mem) (by simp only [Around.deeper, cLine]; omega) ?_
  k_with "compareOp IsNot bool bool" => refine isNotSame (decide_eq_decide.mpr Iff.rfl) ?_
  k_with "subscriptTail Name UnaryOp ref int" => (with_unfolding_all refine lastRow (by k_asm) (by assumption) (by intro p hp; walk_at "mx") (by assumption) ?_; intro _ _ _ _ _ _)
  k_with "binaryOp FloorDiv int int" => refine floordiv_int (by omega) ?_ (Or.inl (PyProof.noPylong_small (by omega)))
  k_with "call builtin:list.append" => (refine append_K (by k_asm) (by k_asm) (by k_upd) ?_ (by rw [List.size_toArray, sizeLine_eq]; omega); intro _ _ _)
  k_with "binaryOp Mult str int" => (refine mulLetter (by first | with_reducible exact atOne | with_reducible exact cutOne (by omega) (by omega)) (by first | assumption | omega) ?_; intro _ _ _)
  k_with "goQ" => repeat' ((fail_if_success (with_reducible show wpAny _ _ (compareOp _ _ _) _ _ _)); (walk_at "st"))
  w_top off
  trivial
structure Inv5 (A B : Str) (tl : List (Addr × Obj)) (L D : Addr) (F S : Str) (o₂ o₃ : Obj) (us : List Value) (led : List (Addr × Obj)) (told : List SRow) : Prop where
  sub : ∀ p ∈ tl, p ∈ led
  dat : DatAll led us (told.map srowD)
  due : told ++ dueAll F S = dueAll A B
  wF : Word F
  wS : Word S
  lF : F.length + wt (dueAll F S) ≤ 200
  lS : S.length + wt (dueAll F S) ≤ 200
  d₂ : ∃ t, o₂.data = .cell (some (.str F t))
  d₃ : ∃ t, o₃.data = .cell (some (.str S t))
  off : Off5 L led
  calm : Calm led
  offD : ∀ p ∈ led, p.1 ≠ D
theorem Inv5.next {A B : Str} {tl : List (Addr × Obj)} {L D : Addr} {F S : Str} {o₂ o₃ : Obj} {us : List Value} {led : List (Addr × Obj)} {told : List SRow} (I : Inv5 A B tl L D F S o₂ o₃ us led told) {F' S' : Str} {o₂' o₃' : Obj} {T : Addr} {oT : Obj} {q : SRow}
    (hdq : dueAll F S = q :: dueAll F' S') (hF : Word F') (hS : Word S') (lF : F'.length ≤ F.length + q.2.natAbs) (lS : S'.length ≤ S.length + q.2.natAbs)
    (d₂ : ∃ t, o₂'.data = .cell (some (.str F' t))) (d₃ : ∃ t, o₃'.data = .cell (some (.str S' t))) (hd : DatIn ((T, oT) :: led) (.ref T) (srowD q)) (hT : ∀ vs, oT.data ≠ .fields vs)
    (hTL : @LT.lt Nat _ (L + 1 + 1 + 1 + 1 + 1) T) (hTD : @LT.lt Nat _ D T) : Inv5 A B tl L D F' S' o₂' o₃' (us ++ [.ref T]) ((T, oT) :: led) (told ++ [q]) := by
  have l1 := I.lF
  have l2 := I.lS
  rw [hdq, wt_cons] at l1 l2
  refine ⟨fun p hp => List.mem_cons_of_mem _ (I.sub p hp), ?_, ?_, hF, hS, by omega, by omega, d₂, d₃, List.forall_mem_cons.mpr ⟨?_, I.off⟩, Calm.cons hT I.calm, List.forall_mem_cons.mpr ⟨(Nat.ne_of_lt hTD).symm, I.offD⟩⟩
  · rw [List.map_append]
    exact (I.dat.mono (fun _ h => List.mem_cons_of_mem _ h)).append (.one hd)
  · rw [← I.due, hdq, List.append_assoc]; rfl
  · clear l1 l2 lF lS
    dsimp only
    omega
theorem repA (F : Str) (c : Nat) (x : Int) : (F ++ rep c x).length ≤ F.length + x.natAbs := by rw [Str.length_append, rep_len]; omega
theorem repB (F : Str) (c : Nat) (x : Int) : (F ++ rep c (-x)).length ≤ F.length + x.natAbs := by rw [Str.length_append, rep_len]; omega
theorem repC (F : Str) (c c' : Nat) (x : Int) : (F ++ rep c x ++ rep c' (-x)).length ≤ F.length + x.natAbs := by rw [Str.length_append, Str.length_append, rep_len, rep_len]; omega
theorem repD (F : Str) (c c' : Nat) (x : Int) : (F ++ rep c (-x) ++ rep c' x).length ≤ F.length + x.natAbs := by rw [Str.length_append, Str.length_append, rep_len, rep_len]; omega
theorem seg5 {w : World} {d u : Nat} {fr : Option (List Env)} {g : Option (List Code)} {s₀ s : Shared} {L Dd : Addr} {m₀ : Str → Option Value} {A B : Str} {a b : Nat} {o₁ o₂ o₃ o₄ o₅ : Obj} {tl : List (Addr × Obj)}
    {name qual : Str} {params : Arguments} {body : List Stmt} {scope : Scope} {dV kV doc pm cdv ct oc : Value} {an od : Option Addr} {osl : Array (Option Value)}
    (ho : (hd.heap_39 w.params).lookup 130 = some ⟨oc, od, .func (fnOf name qual params body scope dV kV doc pm an cdv ct), osl⟩)
    (G : Gd w s₀.heap) (hroom : d < 870) (hu : u < 8000) (hs : ∃ h tk, s = { s₀ with heap := h, toks := tk }) (C : Cells5 A B a b o₁ o₂ o₃ o₄ o₅)
    (hA : Word A) (hB : Word B) (lA : A.length ≤ 4) (lB : B.length ≤ 6) (ha : a ≤ 7)
    (F : Fr s₀.heap L s.heap (ov [(Str.ofString "due", some (.ref Dd))] m₀)) (N : News s₀.heap L s.heap (cl5 L o₁ o₂ o₃ o₄ o₅ tl)) (hoff : Off5 L tl) (hcalm : Calm tl)
    (hdue : DatIn tl (.ref Dd) (.list ((dueAll A B).map srowD))) :
    LawGo w d u fr g qual scope cdv s₀ L (body.drop 15) s := by
  obtain ⟨h, tk, rfl⟩ := hs
  have e := ho.symm.trans (by k_is : (hd.heap_39 w.params).lookup 130 = some ⟨_, _, .func (fnOf _ _ _ _ _ _ _ _ _ _ _ _), _⟩)
  cases e
  clear ho
  obtain ⟨mean, mg, mb, T⟩ := G.T
  have X := G.X
  have C' := C
  obtain ⟨⟨v₁, d₁⟩, ⟨tA, d₂⟩, ⟨tB, d₃⟩, ⟨ta, d₄⟩, ⟨tb, d₅⟩⟩ := C'
  walk_at "go"
  rename_i D h3 lt1 h2 F1 N1 h1 tk2 t1 t2 t3 hR F2 N2 hget
  refine iterRange (n := 12) (fun i m news => ∃ F S o₂ o₃ us k led told m', news = (D, W.listOf us.toArray k) :: cl5 L o₁ o₂ o₃ o₄ o₅ led ∧ m = ov [(Str.ofString "told", some (.ref D)), (Str.ofString "due", some (.ref Dd))] m' ∧ told.length = i ∧ Inv5 A B tl L D F S o₂ o₃ us led told)
    rfl hR rfl rfl F2 N2 (Calm.cons (by intro vs h; cases h) (C.calm hcalm))
    ⟨A, B, o₂, o₃, [], 0, tl, [], _, rfl, by walk_at "same map", rfl,
      ⟨(fun _ h => h), .nil, rfl, hA, hB, (by have := T_wt lA lB; omega), (by have := T_wt lA lB; omega), ⟨_, d₂⟩, ⟨_, d₃⟩, hoff, hcalm, (fun p hp => Nat.ne_of_lt (allLt_lt lt1.2.2.2.2.2 hp))⟩⟩ ?_ ?_
  · rintro i t₁ m₁ news₁ h tk₁ own hi ⟨FF, SS, o₂, o₃, us, k, led, told, m', rfl, rfl, htl, I⟩ hcalm2 hown F1 N1
    have I' := I
    obtain ⟨hsub, hdat, hdueq, hF, hS, lF, lS, ⟨tF, d₂⟩, ⟨tS, d₃⟩, hoff, hcalm, hDoff⟩ := I'
    clear N2 F2 hR
    have hv9 := vals_le hF
    have hw9 := vals_le hS
    have l1 := L_len hv9 a
    have l2 := L_len hw9 a
    simp only [List.cons_append] at N1
    replace F1 : Fr s₀.heap L h _ := F1
    replace N1 : News s₀.heap L h ((D, W.listOf us.toArray k) :: cl5 L o₁ o₂ o₃ o₄ o₅ (led ++ own)) := N1
    have hoD : ∀ p ∈ own, p.1 ≠ D := fun p q => hown p q _ List.mem_cons_self
    have ho2 : ∀ p ∈ own, p.1 ≠ L + 1 + 1 := fun p q => hown p q (L + 1 + 1, o₂) (by simp)
    have ho3 : ∀ p ∈ own, p.1 ≠ L + 1 + 1 + 1 := fun p q => hown p q (L + 1 + 1 + 1, o₃) (by simp)
    have hl2 : ∀ p ∈ led, p.1 ≠ L + 1 + 1 := fun p q => (hoff p q).2.2.2.1
    have hl3 : ∀ p ∈ led, p.1 ≠ L + 1 + 1 + 1 := fun p q => (hoff p q).2.2.1
    have hul : us.length ≤ 12 := by have := hdat.length; rw [List.length_map] at this; omega
    refine hideQ fun Tq hTq => ?_
    walk_at "goI"
    by_cases hU : UL FF SS a = []
    · have hnil := T_nil hF hS hU
      have htold : told = dueAll A B := by rw [← hdueq, hnil, List.append_nil]
      have hDat : DatIn ((D, W.listOf us.toArray k) :: led) (.ref D) (.list (told.map srowD)) := .list List.mem_cons_self (hdat.mono (fun _ h => List.mem_cons_of_mem _ h))
      have hdue := hdue.mono hsub
      walk_at "go"
      rw [hTq]
      refine TurnQ.brk ?_
      dsimp only
      walk_at "goQ"
      rename News _ _ _ _ => nN
      refine eqTold (us := us) (k := k) nN (by simp) hdat (by intro p hp; walk_at "mx") hdue (by intro p hp; walk_at "mx") htold (by simp only [Around.deeper, cLine]; omega) ?_
      dsimp only
      exact fin rfl (by assumption) (by assumption) rfl
    · obtain ⟨pre, size, l, r, hUe, hs1, hs2, hcase⟩ := T_last hF hS ha hU
      have hlk : ((r - l).fdiv size).natAbs ≤ 200 := by
        rcases hcase with ⟨_, hdq⟩ | ⟨_, _, hdq⟩
        · rw [hdq, wt_cons] at lF; dsimp only at lF; omega
        · rw [hdq, wt_cons] at lF; dsimp only at lF; omega
      have hk1 : ((r - l).fdiv size).natAbs ≤ 1000 := Nat.le_trans hlk (by decide)
      have hk2 : (-(r - l).fdiv size).natAbs ≤ 1000 := by rw [Int.natAbs_neg]; exact hk1
      have hFl : FF.length ≤ 200 := Nat.le_trans (Nat.le_add_right _ _) lF
      have hSl : SS.length ≤ 200 := Nat.le_trans (Nat.le_add_right _ _) lS
      clear lF lS hlk
      walk1
      walk_at "goI"
      walk1
      walk_at "goI"
      rcases hcase with ⟨hbig, hdq⟩ | ⟨hsm, hs9, hdq⟩
      · walk_at "go"
        rename News _ _ _ _ => nN
        rename Fr _ _ _ _ => nF
        rename _ < _ ∧ _ < _ ∧ _ => hltX
        clear hltX
        rename _ < _ ∧ _ < _ ∧ _ => hlt
        rw [hTq]
        refine turnEnd nF nN ⟨⟨_, d₁⟩, ⟨_, by assumption⟩, ⟨_, by assumption⟩, ⟨_, d₄⟩, ⟨_, d₅⟩⟩ hcalm (by intro vs h; cases h)
          ⟨FF ++ rep 64 ((r - l).fdiv size), SS ++ rep 64 (-(r - l).fdiv size), _, _, _, _, _, told ++ [(Str.ofString "@", (r - l).fdiv size)], _, rfl, by walk_at "same map", by rw [List.length_append, htl]; rfl,
            I.next hdq (hF.app (Word.rep sign64 _)) (hS.app (Word.rep sign64 _)) (repA _ _ _) (repB _ _ _) ⟨_, by assumption⟩ ⟨_, by assumption⟩ (.tuple List.mem_cons_self (.cons (.str _ _) (.cons (.int _ _) .nil))) (by intro vs h; cases h) hlt.2.2.2.1 hlt.2.2.1⟩
      · walk_at "go"
        rename News _ _ _ _ => nN
        rename Fr _ _ _ _ => nF
        rename _ < _ ∧ _ < _ ∧ _ => hltX
        clear hltX
        rename _ < _ ∧ _ < _ ∧ _ => hlt
        have sg : Sign (64 + size.toNat) := by unfold Sign; omega
        rw [hTq]
        refine turnEnd nF nN ⟨⟨_, d₁⟩, ⟨_, by assumption⟩, ⟨_, by assumption⟩, ⟨_, d₄⟩, ⟨_, d₅⟩⟩ hcalm (by intro vs h; cases h)
          ⟨FF ++ rep (64 + size.toNat) ((r - l).fdiv size) ++ rep 64 (-(r - l).fdiv size), SS ++ rep (64 + size.toNat) (-(r - l).fdiv size) ++ rep 64 ((r - l).fdiv size), _, _, _, _, _, told ++ [(⟨#[94, 64 + size.toNat]⟩, (r - l).fdiv size)], _, rfl, by walk_at "same map", by rw [List.length_append, htl]; rfl,
            I.next hdq ((hF.app (Word.rep sg _)).app (Word.rep sign64 _)) ((hS.app (Word.rep sg _)).app (Word.rep sign64 _)) (repC _ _ _ _) (repD _ _ _ _) ⟨_, by assumption⟩ ⟨_, by assumption⟩ (.tuple List.mem_cons_self (.cons (.str _ _) (.cons (.int _ _) .nil))) (by intro vs h; cases h) hlt.2.2.2.1 hlt.2.2.1⟩
  · rintro m₁ news₁ h tk₁ ⟨FF, SS, o₂, o₃, us, k, led, told, m', rfl, rfl, htl, I⟩ _ _ _
    have h10 := T_len A B
    rw [← I.due, List.length_append] at h10
    omega
end
end
theorem lawTail {w : World} {d u : Nat} {fr : Option (List Env)} {g : Option (List Code)} {s₀ s : Shared} {L : Addr} {m₀ : Str → Option Value} {A B : Str} {a b : Nat} {o₁ o₂ o₃ o₄ o₅ : Obj}
    {name qual : Str} {params : Arguments} {body : List Stmt} {scope : Scope} {dV kV doc pm cdv ct oc : Value} {an od : Option Addr} {osl : Array (Option Value)}
    (ho : (hd.heap_39 w.params).lookup 130 = some ⟨oc, od, .func (fnOf name qual params body scope dV kV doc pm an cdv ct), osl⟩)
    (G : Gd w s₀.heap) (hroom : d < 870) (hu : u < 8000) (hs : ∃ h tk, s = { s₀ with heap := h, toks := tk })
    (hA : Word A) (lA : A.length ≤ 4) (hB : Word B) (lB : B.length ≤ 6) (ha : a ≤ 7) (hb : b ≤ 7) (C : Cells5 A B a b o₁ o₂ o₃ o₄ o₅)
    (F : Fr s₀.heap L s.heap m₀) (N : News s₀.heap L s.heap (cl5 L o₁ o₂ o₃ o₄ o₅ [])) :
    LawGo w d u fr g qual scope cdv s₀ L (body.drop 5) s := by
  refine seg2 ho G hroom hu hs hA lA hB lB C F N fun h tk m D us k led hD F N hdat hne hoff hcalm => ?_
  have hle := L_reach_le (vals_le hA) (vals_le hB) ha hb
  have N1 := cl5_sub N
  have hoff1 : Off5 L ((D, W.listOf us.toArray k) :: led) := List.forall_mem_cons.mpr ⟨by dsimp only; omega, hoff⟩
  have hcalm1 : Calm ((D, W.listOf us.toArray k) :: led) := Calm.cons (by intro vs h; cases h) hcalm
  have hdue : DatIn ((D, W.listOf us.toArray k) :: led) (.ref D) (.list ((dueAll A B).map srowD)) := .list List.mem_cons_self (hdat.mono fun _ h => List.mem_cons_of_mem _ h)
  generalize hT0 : (D, W.listOf us.toArray k) :: led = tl at *
  refine seg3a ho G hroom hu ⟨_, _, rfl⟩ hA lA hB lB ha hb C F N1 hoff1 hcalm1 fun h tk m t F N => ?_
  refine seg3b ho G hroom hu ⟨_, _, rfl⟩ hA lA hB lB ha hb hle.1 hle.2 C F N hoff1 hcalm1 fun h tk m Dt tl2 sub2 htab hoff2 hcalm2 F N => ?_
  have htl : (table (st (vals A) a) (st (vals B) b) (reach (st (vals A) a) (st (vals B) b)).toNat).length ≤ 1000 := by
    simp only [table, List.length_map, List.length_range]; omega
  refine seg3c ho G hroom hu ⟨_, _, rfl⟩ C F N hoff2 hcalm2 htl htab fun h tk m Dn tl3 sub3 hun hoff3 hcalm3 F N => ?_
  refine seg3d ho G hroom hu ⟨_, _, rfl⟩ C F N hoff3 hcalm3 htl (htab.mono sub3) fun h tk m Da tl4 sub4 hab hoff4 hcalm4 F N => ?_
  refine seg4a ho G hroom hu ⟨_, _, rfl⟩ C lA lB ha hb F N hoff4 hcalm4 fun h tk m x y tl5 sub5 hW hV hoff5 hcalm5 F N => ?_
  refine seg4b ho G hroom hu ⟨_, _, rfl⟩ C hA hB lA lB ha hb F N hW hV ((hun.mono sub4).mono sub5) fun h tk F N => ?_
  refine seg4c ho G hroom hu ⟨_, _, rfl⟩ C hA hB lA lB ha hb F N hW hV (hab.mono sub5) fun h tk F N => ?_
  refine seg4d ho G hroom hu ⟨_, _, rfl⟩ C hA hB lA lB ha hb F N hW hV rfl htl (((htab.mono sub3).mono sub4).mono sub5) fun h tk F N => ?_
  refine seg5 ho G hroom hu ⟨_, _, rfl⟩ C hA hB lA lB ha (Fr.ovr F (List.forall_mem_cons.mpr ⟨rfl, List.forall_mem_nil _⟩)) N hoff5 hcalm5 ((((hdue.mono sub2).mono sub3).mono sub4).mono sub5)
-- two maps of names are one: the names by computation, the others fall through
-- objects that stood before the call
theorem prep23 : True := by
  k_with_none
  k_with "it" => (simp only [decide_eq_true_eq, beq_iff_eq, bne_iff_ne, ne_eq]; omega)
  k_with "ite" => first | refine ite_neg (by walk_at "it") ?_ | refine ite_pos (by walk_at "it") ?_
  k_with "st" => first | walk1 | (dsimp only; walk1)
  k_with "go" => repeat' ((fail_if_success (with_reducible show wpAny _ _ (pyIter _) _ _ _)); (walk_at "st"))
  k_with "for" => walk_at "real0"
  k_with "exec For Name Attribute cons nil" => (walk_at "for")
  k_with "exec For Name Call cons nil" => (walk_at "for")
  k_with "exec For Name Constant cons nil" => (walk_at "for")
  k_with "calm" => (repeat' (first | exact Calm.nil | refine Calm.cons (by intro vs h; cases h) ?_ | assumption))
  k_with "sub" => (intro p hp; (simp only [List.mem_cons, List.mem_append, List.not_mem_nil, or_false, false_or] at hp ⊢); first | assumption | grind)
  k_with "same map" => exact ov_eq (by (repeat' (first | exact List.forall_mem_nil _ | refine List.forall_mem_cons.mpr ⟨rfl, ?_⟩))) (fun _ _ => rfl)
  k_with "call builtin:len" => refine lenTup (by assumption) (by assumption) (by assumption) (by omega) ?_
  k_with "subscriptTail Name Name ref int" => (refine itemTup (by assumption) (by assumption) (by assumption) (by omega) (by omega) (by omega) ?_; intro _)
  k_with "execs cons Assign cons" => refine wpAny_execs_cons ?_
  k_with "eval ListComp" => ((rename Fr _ _ _ _ => lF'); (with_unfolding_all refine' compEval lF' ?k1 ?k2 ?k3 ?k4 ?k5 ?_; (case k1 => exact rfl); (case k2 => decide); (case k3 => exact rfl); (case k4 => decide); (case k5 => exact rfl); k_whole))
  k_with "o" => first | omega | (simp only [Around.deeper]; omega)
  k_with "g" => exact Gd.fr (by assumption) (by assumption)
  k_with "wf" => exact WsH.fr (by assumption) (by assumption)
  k_with "call ref" => (refine Gives.useT (longest (by walk_at "wf") (by walk_at "g") (by walk_at "o") (by omega)) (by k_asm) (by k_asm) ?_; intro _ _ _ _ _)
  k_with "call ref" => (refine Gives.useT (level (by walk_at "wf") (by walk_at "g") (by walk_at "o") (by omega) (by omega) (by omega)) (by k_asm) (by k_asm) ?_; intro _ _ _ _ _)
  k_with "call ref" => (refine Gives.use0 (word (by walk_at "g") (by walk_at "o") (by omega) (by omega) (by omega) (by omega)) (by k_asm) (by k_asm) ?_; intro _ _ _ hv _ _; obtain ⟨_, _, hv, _, _⟩ := hv; subst hv)
  k_with "call ref" => (refine Gives.useT (column (by walk_at "g") (by walk_at "o") (by assumption) (by omega) (by omega) (by omega)) (by k_asm) (by k_asm) ?_; intro _ _ _ _ _)
  k_with "exec Assign cons ListComp" => ((rename Fr _ _ _ _ => lF'); (with_unfolding_all refine' compAssign lF' ?k0 ?ks ?k1 ?k2 ?k3 ?k4 ?k5 ?k6 ?k7 ?_; (case k0 => exact rfl); (case ks => exact rfl); (case k1 => exact rfl); (case k2 => decide); (case k3 => exact rfl); (case k4 => decide); (case k5 => exact rfl); (case k6 => exact rfl); (case k7 => exact rfl); k_whole))
  w_top off
  trivial
theorem sumList {prog : Program} {w : World} {A : Around} {E : Value → Shared → Prop} {s : Shared} {h₀ : Heap} {L l : Addr} {m : Str → Option Value} {news : List (Addr × Obj)} {items : Array Value} {ns : List Int} {Q : Value → Shared → Prop} (hh : A.handled = none) (F : Fr h₀ L s.heap m) (N : News h₀ L s.heap news)
    (hl : s.heap.IsList l items) (hi : IntsAre items.toList ns) (h : ∀ h' tk t', Fr h₀ L h' m → News h₀ L h' news → Q (.int ns.sum t') { s with heap := h', toks := tk }) :
    wpAny (model prog w) A (call (.builtin "sum") [.ref l]) Q E s := by
  obtain ⟨xs, hx⟩ := hi.allInts.items
  have hx' : items = intItems xs := by rw [← hx]
  have hn : numsOf items.toList = ns := hi.numsOf
  rw [hx'] at hl hn
  rw [nums_intItems] at hn
  refine sum_intListG hh hl fun h' tk t' hk => ?_
  rw [preSum_eq, List.take_of_length_le (by simp), hn]
  exact h h' tk t' (F.keeps hk) (N.grown hk)
theorem drop3 {h₀ h : Heap} {L : Addr} {x y z : Addr × Obj} {l : List (Addr × Obj)} (N : News h₀ L h (x :: y :: z :: l)) : News h₀ L h l := fun p hp => N p (List.mem_cons_of_mem _ (List.mem_cons_of_mem _ (List.mem_cons_of_mem _ hp)))
theorem useLaw {w : World} {name qual : Str} {params : Arguments} {body : List Stmt} {scope : Scope} {dV kV doc pm cdv ct oc : Value} {an od : Option Addr} {osl : Array (Option Value)} {P : Prop}
    (ho : (hd.heap_39 w.params).lookup 130 = some ⟨oc, od, .func (fnOf name qual params body scope dV kV doc pm an cdv ct), osl⟩) (k : (hd.heap_39 w.params).lookup 130 = some ⟨oc, od, .func (fnOf name qual params body scope dV kV doc pm an cdv ct), osl⟩ → P) : P := k ho
theorem cells_five {cm : Str → Option Value} {n₁ n₂ n₃ n₄ n₅ : Str} {c₁ c₂ c₃ c₄ c₅ : Addr} {cells : List (Addr × Obj)} (x : CellsAre cm [(n₁, c₁), (n₂, c₂), (n₃, c₃), (n₄, c₄), (n₅, c₅)] cells) :
    ∃ o₁ o₂ o₃ o₄ o₅, cells = [(c₁, o₁), (c₂, o₂), (c₃, o₃), (c₄, o₄), (c₅, o₅)] ∧ o₁.data = .cell (cm n₁) ∧ o₂.data = .cell (cm n₂) ∧ o₃.data = .cell (cm n₃) ∧ o₄.data = .cell (cm n₄) ∧ o₅.data = .cell (cm n₅) := by
  cases x with
  | cons d₁ x => cases x with
    | cons d₂ x => cases x with
      | cons d₃ x => cases x with
        | cons d₄ x => cases x with
          | cons d₅ x => cases x with
            | nil => exact ⟨_, _, _, _, _, rfl, d₁, d₂, d₃, d₄, d₅⟩
theorem prep24 : True := by
  k_with_none
  k_with "it" => (simp only [decide_eq_true_eq, beq_iff_eq, bne_iff_ne, ne_eq]; omega)
  k_with "ite" => first | refine ite_neg (by walk_at "it") ?_ | refine ite_pos (by walk_at "it") ?_
  k_with "st" => first | walk1 | (dsimp only; walk1)
  k_with "go" => repeat' ((fail_if_success (with_reducible show wpAny _ _ (pyIter _) _ _ _)); (walk_at "st"))
  k_with "for" => walk_at "real0"
  k_with "exec For Name Attribute cons nil" => (walk_at "for")
  k_with "exec For Name Call cons nil" => (walk_at "for")
  k_with "exec For Name Constant cons nil" => (walk_at "for")
  k_with "calm" => (repeat' (first | exact Calm.nil | refine Calm.cons (by intro vs h; cases h) ?_ | assumption))
  k_with "sub" => (intro p hp; (simp only [List.mem_cons, List.mem_append, List.not_mem_nil, or_false, false_or] at hp ⊢); first | assumption | grind)
  k_with "same map" => exact ov_eq (by (repeat' (first | exact List.forall_mem_nil _ | refine List.forall_mem_cons.mpr ⟨rfl, ?_⟩))) (fun _ _ => rfl)
  k_with "call builtin:len" => refine lenTup (by assumption) (by assumption) (by assumption) (by omega) ?_
  k_with "subscriptTail Name Name ref int" => (refine itemTup (by assumption) (by assumption) (by assumption) (by omega) (by omega) (by omega) ?_; intro _)
  k_with "execs cons Assign cons" => refine wpAny_execs_cons ?_
  k_with "eval ListComp" => ((rename Fr _ _ _ _ => lF'); (with_unfolding_all refine' compEval lF' ?k1 ?k2 ?k3 ?k4 ?k5 ?_; (case k1 => exact rfl); (case k2 => decide); (case k3 => exact rfl); (case k4 => decide); (case k5 => exact rfl); k_whole))
  k_with "o" => first | omega | (simp only [Around.deeper]; omega)
  k_with "g" => exact Gd.fr (by assumption) (by assumption)
  k_with "wf" => exact WsH.fr (by assumption) (by assumption)
  k_with "call ref" => (refine Gives.useT (longest (by walk_at "wf") (by walk_at "g") (by walk_at "o") (by omega)) (by k_asm) (by k_asm) ?_; intro _ _ _ _ _)
  k_with "call ref" => (refine Gives.useT (level (by walk_at "wf") (by walk_at "g") (by walk_at "o") (by omega) (by omega) (by omega)) (by k_asm) (by k_asm) ?_; intro _ _ _ _ _)
  k_with "call ref" => (refine Gives.use0 (word (by walk_at "g") (by walk_at "o") (by omega) (by omega) (by omega) (by omega)) (by k_asm) (by k_asm) ?_; intro _ _ _ hv _ _; obtain ⟨_, _, hv, _, _⟩ := hv; subst hv)
  k_with "call ref" => (refine Gives.useT (column (by walk_at "g") (by walk_at "o") (by assumption) (by omega) (by omega) (by omega)) (by k_asm) (by k_asm) ?_; intro _ _ _ _ _)
  k_with "exec Assign cons ListComp" => ((rename Fr _ _ _ _ => lF'); (with_unfolding_all refine' compAssign lF' ?k0 ?ks ?k1 ?k2 ?k3 ?k4 ?k5 ?k6 ?k7 ?_; (case k0 => exact rfl); (case ks => exact rfl); (case k1 => exact rfl); (case k2 => decide); (case k3 => exact rfl); (case k4 => decide); (case k5 => exact rfl); (case k6 => exact rfl); (case k7 => exact rfl); k_whole))
  k_with "goD" => repeat' ((fail_if_success (with_reducible show wpAny _ _ (execs (Stmt.Assign [Expr.Name (Str.ofString "due") _] _ _ :: _) _) _ _ _)); (walk_at "st"))
  w_top off
  trivial
theorem lawC {w : World} {d u : Nat} {fr : Option (List Env)} {g : Option (List Code)} {s : Shared} {l : Addr} {vs : List Value} {ns : List Int} (G : Gd w s.heap) (hroom : d < 870) (hu : u < 8000)
    (hl : s.heap.IsList l vs.toArray) (hi : IntsAre vs ns) (hlen : ns.length ≤ 63) :
    Gives w ⟨none, d, fr, g, u⟩ (.ref 130) [.ref l] s (fun v _ => v = .bool true) := by
  refine enterC [(Str.ofString "script", .ref l)] G (by k_is) (by k_is) (by simp only [recursionLimit]; omega) (BindsTo.of_eq rfl) rfl (by decide +kernel) ?_
  intro L mg mb h₁ tk cells hL F N Y X mean T
  have hY := cells_five Y
  obtain ⟨o₁, o₂, o₃, o₄, o₅, rfl, d₁, d₂, d₃, d₄, d₅⟩ := hY
  clear Y
  walk_at "go"
  rename IsRange _ _ _ _ _ _ _ _ => R0
  rename Fr _ _ _ _ => F0
  rename News _ _ _ _ => N0
  refine compRange rfl F0 N0 R0 (rangeSmall1 (by omega) (by omega) (by omega) (by omega)) (rangeSize1 _ _) (by decide) (fun g => ?_)
  refine compInd (fun i ys news => news = _ ∧ ∃ ks, IntsAre ys ks ∧ ks.length = i ∧ ∀ k ∈ ks, 0 ≤ k ∧ k < 1000000000) ?_ ?_ _ _ _ _ (Nat.zero_add _) ⟨rfl, [], .nil, rfl, fun _ h => nomatch h⟩
  · rintro i ys news hi3 ⟨rfl, ks, hks, hkl, hkb⟩ v I oI C oC D m₂ h tk₁ E' ⟨u', rfl⟩ hN hm F1 N1 ho hne
    have hi3 : i < 3 := hi3
    rename IntsAre _ (List.take _ _) => hcl
    walk_at "go"
    refine sumList rfl (by assumption) (by assumption) (News.isList (by assumption) (by k_mem)) (hcl.pick _ _ _) ?_
    intro h' tk' t' F' N'
    walk_at "go"
    rename News _ _ _ _ => N2
    rename Fr _ _ _ _ => F2
    refine LCg.CompEnd.intro F2 N2 _ (by walk_at "sub") ho trivial ⟨rfl, ks ++ [_], hks.append (.cons _ _ .nil), by simp [hkl], ?_⟩
    intro k hk
    rcases List.mem_append.mp hk with h | h
    · exact hkb k h
    · rw [List.mem_singleton.mp h]; exact ⟨fmod_lo _ (by decide), Int.lt_of_lt_of_le (fmod_hi _ (by decide)) (by decide)⟩
  · rintro ys news ⟨rfl, ks, hks, hkl, hkb⟩ D h tk₁ F1 N1 ho
    have hkl : ks.length = 3 := hkl
    have hb : ∀ j, 0 ≤ ks.getD j 0 ∧ ks.getD j 0 < 1000000000 := fun j => by
      rw [List.getD_eq_getElem?_getD]
      cases e : ks[j]? with
      | none => simp
      | some k => exact hkb k (List.mem_of_getElem? e)
    simp only [LCg.Off1, and_true] at ho
    have hb0 := hb (Int.toNat 0)
    have hb1 := hb (Int.toNat 1)
    have hb2 := hb (Int.toNat 2)
    walk_at "go"
    rename Word _ => hA
    refine upperA (hA.sliceBy _ _ _) (Nat.le_trans (Txt.sliceBy_le _ _ _ _ (by show (-1 : Int) ≠ 0; decide)) (by omega)) ?_
    intro V hV hVl t9 k9
    have hVl2 := Nat.le_trans (Nat.le_of_eq hVl) (Txt.sliceBy_le _ _ _ _ (by show (-1 : Int) ≠ 0; decide))
    clear hVl
    have hsl := hV.slice none (some ((ks.getD (Int.toNat 2) 0).fmod 5))
    walk_at "goD"
    refine useLaw (w := w) (by k_is) (fun ho => ?_)
    rename News _ _ _ _ => nN
    rename Fr _ _ _ _ => nF
    rename Word _ => hB2
    have x1 := fmod_lo ((ks.getD (Int.toNat 2) 0).fdiv 5) (show (0 : Int) < 8 by decide)
    have x2 := fmod_hi ((ks.getD (Int.toNat 2) 0).fdiv 5) (show (0 : Int) < 8 by decide)
    have y1 := fmod_lo ((ks.getD (Int.toNat 2) 0).fdiv 40) (show (0 : Int) < 8 by decide)
    have y2 := fmod_hi ((ks.getD (Int.toNat 2) 0).fdiv 40) (show (0 : Int) < 8 by decide)
    exact lawTail (a := (((ks.getD (Int.toNat 2) 0).fdiv 5).fmod 8).toNat) (b := (((ks.getD (Int.toNat 2) 0).fdiv 40).fmod 8).toNat) ho G hroom hu ⟨_, _, rfl⟩ hA (by omega) (hsl.1.app hB2) (by omega) (by omega) (by omega)
      ⟨⟨_, by assumption⟩, ⟨_, by assumption⟩, ⟨_, by assumption⟩, ⟨_, by rw [Int.toNat_of_nonneg x1]; assumption⟩, ⟨_, by rw [Int.toNat_of_nonneg y1]; assumption⟩⟩ nF (drop3 nN)
theorem joint (lawC : ∀ {w : World} {d u : Nat} {fr : Option (List Env)} {g : Option (List Code)} {s : Shared} {l : Addr} {vs : List Value} {ns : List Int}, Gd w s.heap → d < 870 → u < 8000 → s.heap.IsList l vs.toArray → IntsAre vs ns → ns.length ≤ 63 →
    Gives w ⟨none, d, fr, g, u⟩ (.ref 130) [.ref l] s (fun v _ => v = .bool true)) : PySem.Challenge.rw_mr0218_01.Holds := by
  refine hd ?_
  k_fill
  intro w s₀ s₁ mg mb G Y fa o pm cd doc dV kV ho hd hcd hD hmg hg args vals as hpre hlay hrd hwl hlo
  have KX := kIn_of Y
  have X := (Ground.X G).1
  have V := (Ground.X G).2
  refine Ground.open G ?_
  intro T B D TE TW
  try (refine guard_noD D (by decide +kernel) ?_; clear D)
  obtain ⟨_, _, M⟩ := bmod_of_top T
  have TA := at_of_top T
  wrow_args hpre hlay hrd hwl hlo
  all_goals (
    first | refine callC_kw (enter_call ?_) | refine enter_call ?_ | refine callC_kw (enter_callW ?_) | refine enter_callW ?_ | w_how
    w_top on
    try refine codeAny_mono ?_ (fun _ _ g => GoodW.toG g)
    have K0 := below_caller (Top.heap T))
  have hfa := mg_of (n := Str.ofString "law") (v := .ref 130) KX T.g (by k_is)
  have hfa' : some (Value.ref fa) = some (Value.ref 130) := hmg.symm.trans hfa
  cases hfa'
  rename IntsAre _ _ => hI
  rename Heap.IsList _ _ _ => hL
  have G' : Gd w s₁.heap := ⟨KX, _, _, _, T⟩
  refine lawC (d := callerA.depth) (u := callerA.units) (fr := callerA.frames) (g := callerA.guards) G' (by decide) (by decide) hL hI (by omega) _ ?_
  intro h' tk v led st fr hv
  subst hv
  refine ⟨.inl ⟨_, _, _, rfl, ?_, .bool true, ?_, ?_⟩, st, rfl, hg⟩
  · intro cls; rfl
  · first | wrow_post | (exact postW_of (by wrow_shape) (by wtm_val) rfl) | decide
  · exact fun _ => ⟨List.nodup_nil, fun _ h => nomatch h⟩
end Mine

theorem PySem.Challenge.cw_mr0218_01_holds : PySem.Challenge.rw_mr0218_01.Holds :=
  Mine.joint Mine.lawC
