import PyProof.Rows.All
import Wide.All
import OpenK.AllK
import Wide.FinOn
import PySem.Challenge.RW_rs0109_01
open PySem PySem.W PyProof.Rows PySem.Calls
set_option Elab.async false
set_option compiler.extract_closed false

namespace Mine
abbrev pw : Program := PySem.Challenge.pw_rs0109_01
def stm (i : Nat) : Stmt := pw.main.body.getD i (.Pass default)
def parsOf : Stmt → Arguments
  | .FunctionDef _ a _ _ _ _ _ _ _ _ => a
  | _ => ⟨[], [], none, [], [], none, []⟩
def bodyOf : Stmt → List Stmt
  | .FunctionDef _ _ b _ _ _ _ _ _ _ => b
  | _ => []
def scopeOf : Stmt → Scope
  | .FunctionDef _ _ _ _ _ _ s _ _ _ => s
  | _ => default
def nameOf : Stmt → Str
  | .FunctionDef n _ _ _ _ _ _ _ _ _ => n
  | _ => ""
/-- the def at row i of the text lies at a, its code record at c -/
def Def (h : Heap) (a i c : Nat) : Prop := ∃ o pm doc, h.get? a = some o ∧ o.data = .func (docDef (nameOf (stm i)) (parsOf (stm i)) (bodyOf (stm i)) (scopeOf (stm i)) pm (.ref c) doc) ∧ h.CodeRec (.ref c) (nameOf (stm i))
theorem Def.keeps {h h' : Heap} {a i c : Nat} (D : Def h a i c) (k : ∀ b o, h.get? b = some o → h'.get? b = some o) : Def h' a i c :=
  let ⟨o, pm, doc, h1, h2, h3⟩ := D; ⟨o, pm, doc, k _ _ h1, h2, h3.keeps k⟩

abbrev Led := List (Addr × Obj)
abbrev Map := Str → Option Value

/-- what a turn of a loop leaves: the frame, the ledger with the iterator in it, the word for the next turn -/
def TurnEnd (h₀ : Heap) (L : Addr) (K : Map → Led → Array GenState → Prop) (I : Addr) (oI : Obj) (s s₃ : Shared) : Prop :=
  ∃ h' tk' g' m' n', s₃ = { s with heap := h', toks := tk', gens := g' } ∧ Fr h₀ L h' m' ∧ News h₀ L h' ((I, oI) :: n') ∧ (∀ p ∈ n', p.1 ≠ I) ∧ K m' n' g'

theorem news_cons {h₀ h : Heap} {L a : Addr} {o : Obj} {n : Led} : News h₀ L h ((a, o) :: n) ↔ (h.get? a = some o ∧ a ≠ L ∧ h₀.get? a = none) ∧ News h₀ L h n :=
  ⟨fun N => ⟨N (a, o) (.head _), fun p hp => N p (.tail _ hp)⟩, fun ⟨x, N⟩ p hp => by
    rcases List.mem_cons.mp hp with rfl | hp
    · exact x
    · exact N p hp⟩

theorem for_fr {w : World} {A : Around} {E : Value → Shared → Prop} {s : Shared} {env : Env} {target iter : Expr} {body : List Stmt} {pos : Pos} {Q : Flow → Shared → Prop} {h₀ : Heap} {L : Addr} {m : Map} {news : Led} {l : Addr} {vs : List Value}
    (K : Nat → Map → Led → Array GenState → Prop) (hh : A.handled = none) (F : Fr h₀ L s.heap m) (N : News h₀ L s.heap news)
    (hiter : ∀ Q' : Value → Shared → Prop, Q' (.ref l) s → wpAny (model pw w) A (eval iter env) Q' E s)
    (hl : ∀ i m₁ n₁ g h, K i m₁ n₁ g → Fr h₀ L h m₁ → News h₀ L h n₁ → h.IsList l vs.toArray)
    (hgo : ∀ (I : Addr) (j i : Nat) (v : Value) (s' : Shared) (E' : Value → Shared → Prop), vs[i]? = some v → s'.heap.IsListIter I l j → ∀ Q' : Unit → Shared → Prop, Q' () s' → wpAny (model pw w) A (letOwnedTupleGo target (.ref I) v) Q' E' s')
    (k0 : K 0 m news s.gens)
    (turn : ∀ (I : Addr) (oI : Obj) (i : Nat) (v : Value) m₁ n₁ g h tk, vs[i]? = some v → K i m₁ n₁ g → Fr h₀ L h m₁ → News h₀ L h ((I, oI) :: n₁) → (∀ p ∈ n₁, p.1 ≠ I) →
      wpAny (model pw w) A (assign target env v) (fun _ s₂ => wpAny (model pw w) A (execs body env) (fun f s₃ => match f with
        | .next | .cont => TurnEnd h₀ L (K (i + 1)) I oI s s₃
        | .brk => Q .next s₃
        | .ret v => Q (.ret v) s₃) E s₂) E { s with heap := h, toks := tk, gens := g })
    (done : ∀ m' n' g' h' tk', K vs.length m' n' g' → Fr h₀ L h' m' → News h₀ L h' n' → Q .next { s with heap := h', toks := tk', gens := g' })
    (hs : ∀ x, foldedSetIterable iter env x = pure x := by intro _; rfl)
    (hE : PassesOwn (model pw w) A env E := by passes_own) :
    wpAny (model pw w) A (exec (.For target iter body [] pos) env) Q E s := by
  have hl0 := hl 0 m news s.gens s.heap k0 F N
  refine wpAny_For (hiter _ (wpAny_pyIter_list hl0 ?_)) hs
  generalize hI : s.heap.objs.size = I
  have hlI : ∀ i m₁ n₁ g h, K i m₁ n₁ g → Fr h₀ L h m₁ → News h₀ L h n₁ → h.IsList l vs.toArray := hl
  have hnI : h₀.get? I = none := by
    cases q : h₀.get? I with
    | none => rfl
    | some o => exact absurd (Heap.lt_size (F.keep _ _ q)) (by rw [hI]; exact Nat.lt_irrefl _)
  have hIL : I ≠ L := by
    obtain ⟨oL, _, _, hL, _⟩ := F.ns
    exact Nat.ne_of_gt (hI ▸ Heap.lt_size hL)
  have hlneI : l ≠ I := by
    obtain ⟨o, ho, _⟩ := hl0
    exact Nat.ne_of_lt (hI ▸ Heap.lt_size ho)
  refine codeAny_forLoop_any (fun k s' => ∃ h' tk' g' m' n' i, s' = { s with heap := h', toks := tk', gens := g' } ∧ h'.IsListIter I l i ∧ Fr h₀ L h' m' ∧ News h₀ L h' n' ∧ (∀ p ∈ n', p.1 ≠ I) ∧ K i m' n' g' ∧ i ≤ vs.length ∧ k = vs.length + 1 - i) ?_ (vs.length + 1)
    ⟨_, s.toks, s.gens, m, news, 0, rfl, ⟨_, by rw [← hI]; exact Heap.get?_push_size _ rfl, rfl, rfl⟩, F.push _, fun p hp => ⟨Heap.get?_push_of_some _ (N p hp).1, (N p hp).2⟩, (fun p hp => Nat.ne_of_lt (hI ▸ Heap.lt_size (N p hp).1)), k0, Nat.zero_le _, rfl⟩
  rintro k s' ⟨h', tk', g', m', n', i, rfl, hit, F', N', hne, hK, hi, rfl⟩
  have hl' := hl i m' n' g' h' hK F' N'
  by_cases hlt : i < vs.length
  · have hv : vs.toArray[i]? = some vs[i] := by simp [hlt]
    have hv' : vs[i]? = some vs[i] := by simp [hlt]
    refine wpAny_pyNext_list_item hit hl' hv fun h₁ hit₁ hs₁ => ?_
    obtain ⟨oI, hoI, hcI, hdI⟩ := id hit₁
    have F₁ : Fr h₀ L h₁ m' := F'.change hs₁ hIL hnI
    have N₁ : News h₀ L h₁ ((I, oI) :: n') := news_cons.mpr ⟨⟨hoI, hIL, hnI⟩, fun p hp => ⟨(hs₁.2 p.1 (hne p hp)).trans (N' p hp).1, (N' p hp).2⟩⟩
    refine hgo I (i + 1) i vs[i] { s with heap := h₁, toks := tk', gens := g' } _ hv' hit₁ _ ?_
    refine wpAny_passesOwn hE (wpAny_mono (turn I oI i vs[i] m' n' g' h₁ tk' hv' hK F₁ N₁ hne) (fun _ s₂ h₂ => wpAny_passesOwn hE (wpAny_mono h₂ (fun f s₃ h₃ => ?_) fun _ _ e => e)) fun _ _ e => e)
    have fin : TurnEnd h₀ L (K (i + 1)) I oI s s₃ → ∃ k', k' < vs.length + 1 - i ∧ ∃ h' tk' g' m' n' j, s₃ = { s with heap := h', toks := tk', gens := g' } ∧ h'.IsListIter I l j ∧ Fr h₀ L h' m' ∧ News h₀ L h' n' ∧ (∀ p ∈ n', p.1 ≠ I) ∧ K j m' n' g' ∧ j ≤ vs.length ∧ k' = vs.length + 1 - j := by
      rintro ⟨h2, tk2, g2, m2, n2, e, F2, N2, hne2, hK2⟩
      obtain ⟨a, b⟩ := news_cons.mp N2
      exact ⟨vs.length + 1 - (i + 1), by omega, h2, tk2, g2, m2, n2, i + 1, e, ⟨oI, a.1, hcI, hdI⟩, F2, b, hne2, hK2, hlt, rfl⟩
    cases f with
    | ret v => exact h₃
    | brk => exact h₃
    | next => exact fin h₃
    | cont => exact fin h₃
  · have hin : i = vs.length := by omega
    subst hin
    refine wpAny_pyNext_list_end hh hit hl' (by simp) fun h₁ he₁ => wpAny_execs_nil ?_
    have F₁ : Fr h₀ L h₁ m' := ⟨F'.ns.extBut he₁ (Ne.symm hIL), fun b o e => he₁ b o (by rintro rfl; rw [hnI] at e; cases e) (F'.keep b o e), F'.above⟩
    exact done m' n' g' h₁ tk' hK F₁ fun p hp => ⟨he₁ _ _ (hne p hp) (N' p hp).1, (N' p hp).2⟩

/-- the frame's names that are known -/
def Kn (m : Map) : List (Str × Value) → Prop
  | [] => True
  | (a, x) :: r => m a = some x ∧ Kn m r
def over (m : Map) : List (Str × Value) → Map
  | [] => m
  | (a, x) :: r => fun z => if z = a then some x else over m r z
theorem Kn.eq {m : Map} : ∀ {kn : List (Str × Value)}, Kn m kn → over m kn = m
  | [], _ => rfl
  | (a, x) :: r, ⟨h, k⟩ => by
    funext z
    show (if z = a then some x else over m r z) = m z
    rw [Kn.eq k]
    split
    · rename_i e; rw [e, h]
    · rfl
theorem Fr.kn {h₀ h : Heap} {L : Addr} {m : Map} {kn : List (Str × Value)} (F : Fr h₀ L h m) (k : Kn m kn) : Fr h₀ L h (over m kn) := by rw [k.eq]; exact F

abbrev Card := Str × Option Str
def optV : Option Str → Tok → Value
  | none, _ => .none
  | some v, t => .str v t
def CardAt (h : Heap) (v : Value) (c : Card) : Prop := ∃ a t t', v = .ref a ∧ IsTup h a #[.str c.1 t, optV c.2 t']
inductive CardsAt (h : Heap) : List Value → List Card → Prop
  | nil : CardsAt h [] []
  | cons {v vs c cs} : CardAt h v c → CardsAt h vs cs → CardsAt h (v :: vs) (c :: cs)
theorem CardAt.keeps {h h' : Heap} {v c} (x : CardAt h v c) (k : ∀ b o, h.get? b = some o → h'.get? b = some o) : CardAt h' v c :=
  let ⟨a, t, t', e, o, ho, r⟩ := x; ⟨a, t, t', e, o, k _ _ ho, r⟩
theorem CardsAt.keeps {h h' : Heap} {vs cs} (x : CardsAt h vs cs) (k : ∀ b o, h.get? b = some o → h'.get? b = some o) : CardsAt h' vs cs := by
  induction x with
  | nil => exact .nil
  | cons a _ ih => exact .cons (a.keeps k) ih
theorem CardsAt.length {h : Heap} {vs cs} (x : CardsAt h vs cs) : vs.length = cs.length := by
  induction x with
  | nil => rfl
  | cons _ _ ih => simp [ih]
theorem CardsAt.get {h : Heap} {vs cs} (x : CardsAt h vs cs) : ∀ {i : Nat} {v : Value}, vs[i]? = some v → ∃ c, cs[i]? = some c ∧ CardAt h v c := by
  induction x with
  | nil => intro i v e; simp at e
  | cons a _ ih =>
    intro i v e
    cases i with
    | zero => simp at e; subst e; exact ⟨_, rfl, a⟩
    | succ i => simp at e; simpa using ih e
def cardText (c : Card) : Str := match c.2 with
  | none => Str.ofString "; " ++ c.1 ++ Str.ofString "; "
  | some v => Str.ofString "; " ++ c.1 ++ Str.ofString "=" ++ v ++ Str.ofString "; "
def lawText (mark : Str) : List Card → Str
  | [] => mark
  | c :: cs => mark ++ cardText c ++ lawText mark cs
def lawFold (mark : Str) (cs : List Card) : Str := cs.foldl (fun t c => t ++ cardText c ++ mark) mark

end Mine

namespace Mine
def Small (c : Card) : Prop := c.1.length ≤ 3 ∧ ∀ v, c.2 = some v → v.length ≤ 2
theorem fold_len {mark : Str} (hm : mark.length ≤ 1) : ∀ (cs : List Card), (∀ c ∈ cs, Small c) → ∀ t : Str, (cs.foldl (fun t c => t ++ cardText c ++ mark) t).length ≤ t.length + 11 * cs.length := by
  intro cs
  induction cs with
  | nil => intro _ t; simp
  | cons c cs ih =>
    intro hs t
    have h1 := ih (fun c hc => hs c (.tail _ hc)) (t ++ cardText c ++ mark)
    have h2 : (cardText c).length ≤ 10 := by
      obtain ⟨k, v⟩ := c
      obtain ⟨a, b⟩ := hs _ (.head _)
      have e1 : (Str.ofString "; ").length = 2 := by decide
      have e2 : (Str.ofString "=").length = 1 := by decide
      cases v with
      | none => simp only [cardText, Str.length_append, e1]; dsimp only at a; omega
      | some v => have := b v rfl; simp only [cardText, Str.length_append, e1, e2]; dsimp only at a; omega
    simp only [List.foldl_cons, List.length_cons, Str.length_append] at h1 ⊢
    omega
theorem lawFold_len {mark : Str} (hm : mark.length ≤ 1) {cs : List Card} (hs : ∀ c ∈ cs, Small c) (hn : cs.length ≤ 9) : (lawFold mark cs).length ≤ 100 := by
  have := fold_len hm cs hs mark
  unfold lawFold
  omega
theorem lawFold_snoc {mark : Str} {cs : List Card} {c : Card} {i : Nat} (h : cs[i]? = some c) : lawFold mark (cs.take (i + 1)) = lawFold mark (cs.take i) ++ cardText c ++ mark := by
  unfold lawFold
  rw [List.take_add_one, h]
  simp

local macro_rules | `(tactic| walk_at "assign Tuple") => `(tactic| (with_reducible show wpAny _ _ (assign (Expr.Tuple _ _ _) _ (Value.ref _)) _ _ _); refine unpackN_ (by assumption) (by assumption) (by assumption) (by assumption) rfl rfl ?_; intro _ _ _)

set_option maxRecDepth 100000 in
set_option maxHeartbeats 4000000 in
theorem law_text_call {w : World} {A : Around} {s : Shared} {l : Addr} {vs : List Value} {cs : List Card} {mark : Str} {tm : Tok} {R : Result → Shared → Prop}
    (D : Def s.heap 122 18 121) (hl : s.heap.NoLimit) (hd : A.depth < recursionLimit) (hh : A.handled = none)
    (hvs : s.heap.IsList l vs.toArray) (hcs : CardsAt s.heap vs cs) (hsm : ∀ c ∈ cs, Small c) (hn : cs.length ≤ 9) (hm : mark.length ≤ 1)
    (hR : ∀ h' tk t, (∀ b o, s.heap.get? b = some o → h'.get? b = some o) → R (.ok (.ret (.str (lawFold mark cs) t))) { s with heap := h', toks := tk }) :
    codeAny (model pw w) A (.call (.ref 122) ⟨[.ref l, .str mark tm], []⟩) R s := by
  obtain ⟨o, pm, doc, h1, h2, h3⟩ := D
  refine call_plain_ret (binds := [("deck", .ref l), ("mark", .str mark tm)]) hd h1 h2 hl h3 rfl (locs rfl) ?_ rfl rfl rfl (by decide)
  intro h₁ F
  conv in (bodyOf (stm 18)) => whnf
  have N : News s.heap s.heap.objs.size h₁ [] := News.nil
  have hh' : (A.deeper (envOf (nameOf (stm 18)) (scopeOf (stm 18)) s.heap.objs.size 122 (Value.ref 121))).handled = none := hh
  iterate 5 walk1
  rename_i h₂ F₂ N₂
  refine for_fr (h₀ := s.heap) (l := l) (vs := vs) (fun i m n g => n = [] ∧ g = s.gens ∧ ∃ t : Tok, Kn m [(Str.ofString "text", .str (lawFold mark (cs.take i)) t), (Str.ofString "mark", .str mark tm)]) hh F₂ N₂ ?iter ?lst ?go ⟨rfl, rfl, tm, rfl, rfl, trivial⟩ ?turn ?done
  case iter => intro Q' h; exact ld F₂ rfl h
  case lst => rintro i m n g h ⟨rfl, rfl, _⟩ F N; exact hvs.at fun o e => F.keep _ _ e
  case go =>
    intro I j i v s' E' hv hit Q' h
    obtain ⟨c, hc, a, t, t', rfl, htup⟩ := hcs.get hv
    exact wpAny_letOwnedTupleGo_listiter hit h
  case turn =>
    rintro I oI i v m n g h tk hv ⟨rfl, rfl, t, hkn⟩ F N hne
    replace F := Fr.kn F hkn
    obtain ⟨⟨key, val⟩, hc, a, tk1, tk2, rfl, htup⟩ := hcs.get hv
    have hst : Small (key, val) := hsm _ (List.mem_of_getElem? hc)
    have hlen := lawFold_len hm (cs := cs.take i) (fun c h => hsm c (List.mem_of_mem_take h)) (by rw [List.length_take]; omega)
    have htup' : IsTup h a #[.str key tk1, optV val tk2] := htup.keeps F.keep
    rw [lawFold_snoc hc]
    generalize lawFold mark (cs.take i) = T at F hlen ⊢
    obtain ⟨hk, hv'⟩ := hst
    dsimp only at hk hv'
    dsimp only [over] at F
    clear htup hkn
    cases val with
    | none =>
      dsimp only [optV] at htup'
      repeat' walk1
      exact ⟨_, _, _, _, [], rfl, by assumption, by assumption, (fun _ h => nomatch h), rfl, rfl, _, by simp only [cardText, Str.append_assoc]; rfl, rfl, trivial⟩
    | some val =>
      have hvl := hv' val rfl
      dsimp only [optV] at htup'
      repeat' walk1
      exact ⟨_, _, _, _, [], rfl, by assumption, by assumption, (fun _ h => nomatch h), rfl, rfl, _, by simp only [cardText, Str.append_assoc]; rfl, rfl, trivial⟩
  case done =>
    rintro m n g h tk ⟨rfl, rfl, t, hkn⟩ F N
    replace F := Fr.kn F hkn
    dsimp only [over] at F
    repeat' walk1
    rw [hcs.length, List.take_length]
    exact hR _ _ _ F.keep
end Mine

namespace Mine
def gtab : List (Str × Value) := [(Str.ofString "_iter_escaped_chars", .ref 38), (Str.ofString "_strip_quoted_realnames", .ref 45), (Str.ofString "_twin_re_7", .ref 50), (Str.ofString "unmatched", .ref 57), (Str.ofString "HEADER_TOKEN_RE", .ref 62),
  (Str.ofString "HEADER_QUOTED_VALUE_RE", .ref 67), (Str.ofString "HEADER_VALUE_RE", .ref 72), (Str.ofString "split_header_words", .ref 84), (Str.ofString "HEADER_JOIN_TOKEN_RE", .ref 89), (Str.ofString "join_header_words", .ref 101),
  (Str.ofString "strip_quotes", .ref 108), (Str.ofString "_law_cards", .ref 115), (Str.ofString "_law_text", .ref 122), (Str.ofString "law", .ref 127)]
def btab : List Str := [Str.ofString "enumerate", Str.ofString "len", Str.ofString "range", Str.ofString "sum", Str.ofString "isinstance", Str.ofString "str"]
def defsTab : List (Nat × Nat × Nat) := [(38, 2, 37), (45, 3, 44), (57, 6, 56), (84, 11, 83), (101, 14, 100), (108, 15, 107), (115, 17, 114), (122, 18, 121), (127, 19, 126)]
/-- what the top left, as far as the call reads it -/
structure Stat (mg mb : Map) (h : Heap) : Prop where
  g : h.Ns mainGlobals mg
  b : h.Ns builtinsNs mb
  bi : ∀ x : Str, x ≠ "__name__" → mb x = bootBuiltins x
  nolimit : h.NoLimit
  digits : ∃ mc, h.Ns cStatics mc ∧ mc "sys.int_max_str_digits" = none
  names : ∀ p ∈ gtab, mg p.1 = some p.2
  free : ∀ x ∈ btab, mg x = none
  defs : ∀ p ∈ defsTab, Def h p.1 p.2.1 p.2.2
theorem Stat.keeps {mg mb : Map} {h h' : Heap} (S : Stat mg mb h) (k : ∀ b o, h.get? b = some o → h'.get? b = some o) : Stat mg mb h' :=
  ⟨S.g.keeps k, S.b.keeps k, S.bi, S.nolimit.keeps k, (let ⟨mc, h1, h2⟩ := S.digits; ⟨mc, h1.keeps k, h2⟩), S.names, S.free, fun p hp => (S.defs p hp).keeps k⟩
theorem lookup_mem {x : Str} {v : Value} : ∀ {l : List (Str × Value)}, l.lookup x = some v → (x, v) ∈ l
  | [], h => by cases h
  | (a, b) :: r, h => by
    rw [List.lookup_cons] at h
    split at h
    · rename_i e; cases h; rw [eq_of_beq e]; exact .head _
    · exact .tail _ (lookup_mem h)
section
variable {M : Model} {A : Around} {E : Value → Shared → Prop} {s : Shared} {name : Str} {scope : Scope} {L a : Addr} {cd : Value} {h₀ : Heap} {m mg mb : Map}
theorem gname {x : Str} {pos : Pos} {v : Value} {Q : Value → Shared → Prop} (S : Stat mg mb h₀) (F : Fr h₀ L s.heap m) (hx : gtab.lookup x = some v) (h : Q v s)
    (hk : scope.kind = .function := by rfl) (hl : (envOf name scope L a cd).kindOf x = some .globalImplicit := by rfl) (hd : (x == ("__debug__" : Str)) = false := by decide) :
    wpAny M A (eval (.Name x pos) (envOf name scope L a cd)) Q E s :=
  Name_function_global hk hl (loadGlobal_global (env := envOf name scope L a cd) (S.g.keeps F.keep) (S.names _ (lookup_mem hx)) h) hd
theorem bname {x : Str} {pos : Pos} {v : Value} {Q : Value → Shared → Prop} (S : Stat mg mb h₀) (F : Fr h₀ L s.heap m) (hx : x ∈ btab) (hb : bootBuiltins x = some v) (h : Q v s)
    (hn : x ≠ "__name__" := by decide) (hk : scope.kind = .function := by rfl) (hl : (envOf name scope L a cd).kindOf x = some .globalImplicit := by rfl) (hd : (x == ("__debug__" : Str)) = false := by decide) :
    wpAny M A (eval (.Name x pos) (envOf name scope L a cd)) Q E s :=
  Name_function_global hk hl (loadGlobal_builtin (env := envOf name scope L a cd) (S.g.keeps F.keep) (S.free x hx) (S.b.keeps F.keep) ((S.bi x hn).trans hb) h) hd
end
theorem dlookup_mem {f : Nat} {v : Nat × Nat} : ∀ {l : List (Nat × Nat × Nat)}, l.lookup f = some v → (f, v) ∈ l
  | [], h => by cases h
  | (a, b) :: r, h => by
    rw [List.lookup_cons] at h
    split at h
    · rename_i e; cases h; rw [eq_of_beq e]; exact .head _
    · exact .tail _ (dlookup_mem h)
theorem callWith_st {M : Model} {A : Around} {E : Value → Shared → Prop} {s : Shared} {env : Env} {h₀ : Heap} {mg mb : Map} {pos : Pos} {f : Addr} {e : Expr} {rest : List Expr} {Q : Value → Shared → Prop} (S : Stat mg mb h₀) (hf : (defsTab.lookup f).isSome = true)
    (h : wpAny M A (spliced (backTo pos (starEach (e :: rest) env))) (fun vs s₁ => (∀ b o, h₀.get? b = some o → s₁.heap.get? b = some o) ∧ wpAny M A (call (.ref f) vs) Q E s₁) E s)
    (he : starEach (e :: rest) env = (false, eval e env) :: starEach rest env := by rfl) :
    wpAny M A (callWith pos (.ref f) [] (backTo pos (starEach (e :: rest) env)) []) Q E s := by
  obtain ⟨v, hv⟩ := Option.isSome_iff_exists.mp hf
  obtain ⟨o, pm, doc, h1, h2, h3⟩ := S.defs _ (dlookup_mem hv)
  exact callWith_def h2 (wpAny_mono h (fun vs s₁ q => ⟨q.1 _ _ h1, q.2⟩) fun _ _ q => q) he
theorem bb_enumerate : bootBuiltins (Str.ofString "enumerate") = some (.type "enumerate") := by decide +kernel
theorem bb_len : bootBuiltins (Str.ofString "len") = some (.builtin "len") := by decide +kernel
theorem bb_range : bootBuiltins (Str.ofString "range") = some (.type "range") := by decide +kernel
theorem bb_sum : bootBuiltins (Str.ofString "sum") = some (.builtin "sum") := by decide +kernel
theorem bb_isinstance : bootBuiltins (Str.ofString "isinstance") = some (.builtin "isinstance") := by decide +kernel
theorem bb_str : bootBuiltins (Str.ofString "str") = some (.type "str") := by decide +kernel
end Mine

namespace Mine
/-- the part of a heap below an address -/
def trunc (C : Nat) (h : Heap) : Heap := ⟨h.objs.extract 0 C, h.life⟩
theorem trunc_get {C : Nat} {h : Heap} {b : Nat} {o : Obj} : (trunc C h).get? b = some o ↔ b < C ∧ h.get? b = some o := by
  have e : (trunc C h).objs[b]? = if b < C then h.objs[b]? else none := by
    show (h.objs.extract 0 C)[b]? = _
    rw [Array.getElem?_extract]
    by_cases hb : b < C
    · by_cases hc : b < h.objs.size
      · rw [if_pos hb, if_pos (by omega), Nat.zero_add]
      · rw [if_pos hb, if_neg (by omega), Array.getElem?_eq_none (by omega)]
    · rw [if_neg hb, if_neg (by omega)]
  unfold Heap.get?
  rw [e]
  by_cases hb : b < C
  · simp [hb]
  · simp [hb]
theorem trunc_size {C : Nat} {h : Heap} : (trunc C h).objs.size ≤ C := by
  show (h.objs.extract 0 C).size ≤ C
  simp; omega

section
variable {M : Model} {A : Around} {R : GenEnd} {Y : Protocol} {n : Nat} {s₀ : Shared} {c : Code} {fs : List Frame} {s : Shared} {env : Env}
  {K : Flow → Sem Fin} {H : Value → Sem Fin} {gd : Bool → Bool} {lv : List Value → List Value}
theorem seg_If {test : Expr} {b o : List Stmt} {pos : Pos}
    (h : wpAny M (A.over c fs) (isTrue test env (eval test env)) (fun r s' => if r = true then Seg M A R Y n s₀ c ((execs b env).wrap K H gd lv) fs s' else Seg M A R Y n s₀ c ((execs o env).wrap K H gd lv) fs s') (fun _ _ => False) s) :
    Seg M A R Y n s₀ c ((exec (.If test b o pos) env).wrap K H gd lv) fs s := by
  rw [exec_If]
  refine seg_bind_wrap (wpAny_standAt (seg_bind_wrap (wpAny_mono h (fun r s' h' => ?_) fun _ _ e => e.elim)))
  cases r
  · simpa using h'
  · simpa using h'
theorem seg_wp {st : Stmt} {rest : List Stmt}
    (h : wpAny M (A.over c fs) (exec st env) (fun f s' => f = .next ∧ Seg M A R Y n s₀ c ((execs rest env).wrap K H gd lv) fs s') (fun _ _ => False) s) :
    Seg M A R Y n s₀ c ((execs (st :: rest) env).wrap K H gd lv) fs s := by
  refine seg_execs_cons (seg_wrap (wpAny_mono h (fun f s' h' => ?_) fun _ _ e => e.elim))
  obtain ⟨rfl, h'⟩ := h'
  exact h'
end
abbrev kFor (env : Env) (K : Flow → Sem Fin) (H : Value → Sem Fin) (gd : Bool → Bool) (lv : List Value → List Value) : Result → Sem Fin :=
  fun r => ((match r with | .ok f => (.pure f : Sem Flow) | .error e => .raise e).onRaise fun (x : Value) => do
        if (← field x 1) == Value.none then unsupported "frame.own-activation:exception-without-traceback"
        setFlight x env.frame).wrap K H gd lv
section
variable {w : World} {A : Around} {R : GenEnd} {Y : Protocol} {n : Nat} {s₀ : Shared} {c : Code} {fs : List Frame} {s : Shared} {env : Env}
  {K : Flow → Sem Fin} {H : Value → Sem Fin} {gd : Bool → Bool} {lv : List Value → List Value} {target iter : Expr} {body : List Stmt} {pos : Pos}
theorem seg_For (h : wpAny (model pw w) (A.over c fs) (eval iter env) (fun x s₁ => wpAny (model pw w) (A.over c fs) (pyIter x) (fun it s₂ => ∀ p, Seg (model pw w) A R Y n s₀ (.forLoop target it body [] env) ((model pw w).den (.forLoop target it body [] env))
      (.ret (kFor env K H gd lv) none (gd false) (lv []) c p [] :: fs) s₂) (fun _ _ => False) s₁) (fun _ _ => False) s)
    (hs : ∀ x, foldedSetIterable iter env x = pure x) : Seg (model pw w) A R Y n s₀ c ((exec (.For target iter body [] pos) env).wrap K H gd lv) fs s := by
  rw [exec_For]
  refine seg_bind_wrap (wpAny_standAt (seg_bind_wrap (wpAny_mono h (fun x s₁ h₁ => ?_) fun _ _ e => e.elim)))
  refine seg_bind_wrap (wpAny_of_eq (hs x) (seg_bind_wrap (wpAny_standAt (seg_bind_wrap (wpAny_holding (wpAny_mono h₁ (fun it s₂ h₂ => ?_) fun _ _ e => e.elim))))))
  exact seg_call h₂
theorem seg_forLoop {it : Value} (h : wpAny (model pw w) (A.over (.forLoop target it body [] env) fs) (pyNext it) (fun r s₁ => match r with
      | none => Seg (model pw w) A R Y n s₀ (.block [] env) (.pure (.done .next)) fs s₁
      | some v => wpAny (model pw w) (A.over (.forLoop target it body [] env) fs) (letOwnedTupleGo target it v) (fun _ s₂ => wpAny (model pw w) (A.over (.forLoop target it body [] env) fs) (assign target env v) (fun _ s₃ =>
          Seg (model pw w) A R Y n s₀ (.forLoop target it body [] env) ((execs body env).wrap (fun f => match f with
            | .next | .cont => .pure (.again (.forLoop target it body [] env))
            | .brk => .pure (.done .next)
            | .ret v => .pure (.done (.ret v))) (fun e => (do noteFrame e env; theTreesLotGoes e : Sem Unit).wrap (fun _ => .raise e) .raise id id) id id) fs s₃) (fun _ _ => False) s₂) (fun _ _ => False) s₁) (fun _ _ => False) s) :
    Seg (model pw w) A R Y n s₀ (.forLoop target it body [] env) ((model pw w).den (.forLoop target it body [] env)) fs s := by
  show Seg _ A R Y n s₀ _ ((forTurn target it body [] env).onRaise (fun x => do noteFrame x env; theTreesLotGoes x)) fs s
  unfold forTurn
  rw [Sem.onRaise_eq_wrap]
  refine seg_bind_wrap (wpAny_standAt (seg_bind_wrap (wpAny_onRaise (wpAny_mono h (fun r s₁ h₁ => ?_) fun _ _ e => e.elim))))
  cases r with
  | none => exact seg_again rfl h₁
  | some v =>
    refine seg_bind_wrap (wpAny_mono h₁ (fun _ s₂ h₂ => seg_bind_wrap (wpAny_mono h₂ (fun _ s₃ h₃ => ?_) fun _ _ e => e.elim)) fun _ _ e => e.elim)
    rw [Sem.bind_eq_wrap', Sem.wrap_wrap]
    rw [Sem.wrap_congr (execs body env) _ _ (K' := fun f => match f with
            | .next | .cont => .pure (.again (.forLoop target it body [] env))
            | .brk => .pure (.done .next)
            | .ret v => .pure (.done (.ret v))) (H' := (fun e => (do noteFrame e env; theTreesLotGoes e : Sem Unit).wrap (fun _ => .raise e) .raise id id))
        (fun f => by cases f <;> rfl)
        (fun e => by first | exact Sem.bind_eq_wrap _ _ | (show (do noteFrame e env; theTreesLotGoes e : Sem Unit).bind (fun _ => .raise e) = _; rw [Sem.bind_eq_wrap]))]
    exact h₃
end
end Mine

namespace Mine
def fBody : Stmt → List Stmt
  | .For _ _ b _ _ => b
  | .While _ b _ _ => b
  | _ => []
def fTgt : Stmt → Expr
  | .For t _ _ _ _ => t
  | _ => .Constant .none 0 default
def tEls : Expr → List Expr
  | .Tuple es _ _ => es
  | _ => []
abbrev gEnv (C : Nat) : Env := envOf (nameOf (stm 2)) (scopeOf (stm 2)) C 38 (.ref 37)
def gFor : Stmt := (bodyOf (stm 2)).getD 2 (.Pass default)
def gRest : List Stmt := (bodyOf (stm 2)).drop 3
def gCode (C e : Nat) : Code := .forLoop (fTgt gFor) (.ref e) (fBody gFor) [] (gEnv C)

def escs : List Nat → Nat → Bool → List (Nat × Str)
  | [], _, false => []
  | [], i, true => [(i - 1, Str.ofString "\\")]
  | c :: r, i, true => (i, Str.ofString "\\" ++ ⟨#[c]⟩) :: escs r (i + 1) false
  | c :: r, i, false => if ((⟨#[c]⟩ : Str) == Str.ofString "\\") = true then escs r (i + 1) true else (i, ⟨#[c]⟩) :: escs r (i + 1) false

def Since (C G : Nat) (s₀ s : Shared) : Prop := ∃ h tk, s = { s₀ with heap := h, toks := tk } ∧ ∀ (b : Nat) o, (b < C ∨ b = G) → s₀.heap.get? b = some o → h.get? b = some o
def gEnd (C G : Nat) : GenEnd := fun n s₀ r s₁ => r = .ok (.ret .none) ∧ (n = 0 ∧ Since C G s₀ s₁)
def gProto (C G : Nat) (ys : List (Nat × Str)) : Protocol := fun m s₀ v s kap =>
  (∃ T p ch rest tk tk', v = .ref T ∧ ys.drop (ys.length - 1 - m) = (p, ch) :: rest ∧ IsTup s.heap T #[.int (p : Nat) tk, .str ch tk']) ∧ Since C G s₀ s ∧
    ∀ s'' : Shared, (∀ (b : Nat) o, C ≤ b → s.heap.get? b = some o → s''.heap.get? b = some o) → kap (.send .none) s''
def kF : Flow → Sem Fin := fun f => .pure (.done (.ret (match f with | .ret v => v | _ => .none)))
def hF (C : Nat) : Value → Sem Fin := fun e => (leaving (gEnv C) e).wrap (fun _ => .raise e) .raise id id
def kL (C : Nat) : Flow → Sem Fin := fun f => match f with | .next => (execs gRest (gEnv C)).wrap kF (hF C) id id | f => kF f
def gFrame (C : Nat) (p : Pos) : List Frame := [.ret (kFor (gEnv C) (kL C) (hF C) id id) none false [] (.func (bodyOf (stm 2)) (gEnv C)) p []]

theorem suffix_drop {α : Type} {ys pre r : List α} {a : α} (h : ys = pre ++ a :: r) : ys.drop (ys.length - 1 - r.length) = a :: r := by
  subst h
  have : (pre ++ a :: r).length - 1 - r.length = pre.length := by simp
  rw [this, List.drop_left]

/-- a resumed generator's frame over the heap it was resumed at -/
theorem fr_resume {C : Nat} {s : Shared} {m : Map} (hn : s.heap.Ns C m) : Fr (trunc C s.heap) C s.heap m := ⟨hn, fun _ _ e => (trunc_get.mp e).2, trunc_size⟩
theorem fr_since {C G : Nat} {s₀ : Shared} {h : Heap} {m : Map} {tk : Nat} {oG : Obj} (F : Fr (trunc C s₀.heap) C h m) (hG0 : s₀.heap.get? G = some oG) (hG : h.get? G = some oG) : Since C G s₀ { s₀ with heap := h, toks := tk } :=
  ⟨h, tk, rfl, fun b o hb e => by
    rcases hb with hb | rfl
    · exact F.keep b o (trunc_get.mpr ⟨hb, e⟩)
    · rw [hG0] at e; cases e; exact hG⟩

theorem walksE {w : World} {A : Around} (hh : A.handled = none) {e it : Nat} (hei : e ≠ it) (x : Str) (t : Tok) :
    WalksT pw w A e [e, it] [e, it] x.cps.size (fun i vals => ∃ t' v, (∃ c u, x.cps[i]? = some c ∧ v = .str ⟨#[c]⟩ u) ∧ vals = #[.int i t', v])
      (fun i h => (∃ old, IsEnum h e it i old) ∧ h.IsStrIter it (strIterType x) x t i)
      (fun i T h => (∃ v, IsEnumOut h e it ((i : Int) + 1) v T) ∧ h.IsStrIter it (strIterType x) x t (i + 1) ∧ T ≠ e ∧ T ≠ it) := by
  cases ha : x.cps.all (· < 128)
  · have : strIterType x = "str_iterator" := by simp [strIterType, ha]
    rw [this]
    exact WalksT.enumerateD (Draws.strWide (A := A.in1) hh it x t) e hei (by simpa using hei) (by simp)
  · have : strIterType x = "str_ascii_iterator" := by simp [strIterType, ha]
    rw [this]
    exact WalksT.enumerateD (Draws.strAscii (A := A.in1) hh it x t) e hei (by simpa using hei) (by simp)

theorem notIn2 {b e it : Nat} (h1 : b ≠ e) (h2 : b ≠ it) : b ∉ [e, it] := by simp [h1, h2]
theorem fr_but {C e it : Nat} {h₀ h h' : Heap} {m : Map} (hC : C < it) (hie : it < e) (F : Fr (trunc C h₀) C h m) (hk : ∀ (b : Nat) o, b ∉ [e, it] → h.get? b = some o → h'.get? b = some o) : Fr (trunc C h₀) C h' m := by
  have ne : ∀ b : Nat, b ≤ C → b ∉ [e, it] := by
    intro b hb hm
    rcases List.mem_cons.mp hm with rfl | hm
    · omega
    · have := List.mem_singleton.mp hm; omega
  exact ⟨F.ns.at' fun o q => hk C o (ne C (Nat.le_refl _)) q, fun b o q => hk b o (ne b (Nat.le_of_lt (trunc_get.mp q).1)) (F.keep b o q), F.above⟩

set_option maxRecDepth 100000 in
set_option maxHeartbeats 4000000 in
theorem seg_rest {w : World} {A : Around} {C G : Nat} (ys : List (Nat × Str)) (i : Nat) (b : Bool) (s₀ s : Shared) (m : Map) (oG : Obj) (hCG : C < G) (F : Fr (trunc C s₀.heap) C s.heap m) (hesc : m "escape" = some (.bool b))
    (hpos : ∃ tp, m "pos" = some (.int ((i - 1 : Nat) : Int) tp)) (hG0 : s₀.heap.get? G = some oG) (hG : s.heap.get? G = some oG) (hs : ∃ h tk, s = { s₀ with heap := h, toks := tk }) (hsuf : ∃ pre, ys = pre ++ escs [] i b) :
    Seg (model pw w) A (gEnd C G) (gProto C G ys) (escs [] i b).length s₀ (.func (bodyOf (stm 2)) (gEnv C)) ((execs gRest (gEnv C)).wrap kF (hF C) id id) [] s := by
  obtain ⟨tp, hpos⟩ := hpos
  obtain ⟨h, tk, rfl⟩ := hs
  dsimp only at F hG
  have hGC : G ≠ C := Nat.ne_of_gt hCG
  have hGn : (trunc C s₀.heap).get? G = none := by
    cases q : (trunc C s₀.heap).get? G with
    | none => rfl
    | some o => exact absurd (trunc_get.mp q).1 (by omega)
  have N : News (trunc C s₀.heap) C h [(G, oG)] := news_cons.mpr ⟨⟨hG, hGC, hGn⟩, News.nil⟩
  replace F := Fr.kn (kn := [(Str.ofString "escape", .bool b), (Str.ofString "pos", .int ((i - 1 : Nat) : Int) tp)]) F ⟨hesc, hpos, trivial⟩
  dsimp only [over] at F
  have eR : gRest = [gRest.headD (.Pass default)] := rfl
  rw [eR]
  conv in (List.headD gRest _) => whnf
  refine seg_execs_cons (seg_If ?_)
  cases b with
  | false =>
    repeat' walk1
    exact seg_end (.ok (.ret .none)) ⟨rfl, rfl, fr_since F hG0 hG⟩
  | true =>
    repeat' walk1
    show Seg _ _ _ _ (0 + 1) _ _ _ _ _
    refine seg_execs_cons (seg_Expr_Yield rfl rfl rfl ?_)
    repeat' walk1
    rename_i h2 F2 N2 kap hkap
    obtain ⟨pre, hsuf⟩ := hsuf
    refine ⟨⟨_, i - 1, _, [], _, _, rfl, suffix_drop hsuf, N2.isTup (.head _)⟩, fr_since F2 hG0 (N2.get (.tail _ (.head _))), fun s'' _ => hkap .none s'' ?_⟩
    exact seg_end (.ok (.ret .none)) ⟨rfl, rfl, s''.heap, s''.toks, rfl, fun _ _ _ e => e⟩

theorem ns_stable {C : Nat} {h h' : Heap} {m : Map} (hn : h.Ns C m) (hst : ∀ (b : Nat) o, C ≤ b → h.get? b = some o → h'.get? b = some o) : h'.Ns C m := hn.at' fun o e => hst C o (Nat.le_refl _) e

set_option maxRecDepth 100000 in
set_option maxHeartbeats 4000000 in
theorem seg_loop {w : World} {A : Around} (hh : A.handled = none) {C G e it : Nat} (x : Str) (t : Tok) (ys : List (Nat × Str)) (hCG : C < G) (hGi : G < it) (hie : it < e) (p : Pos) :
    ∀ (k i : Nat) (b : Bool) (s₀ s : Shared) (m : Map) (oG : Obj), x.cps.size - i = k → i ≤ x.cps.size → Fr (trunc C s₀.heap) C s.heap m → m "escape" = some (.bool b) → (∃ tp, m "pos" = some (.int ((i - 1 : Nat) : Int) tp)) →
      (∃ old, IsEnum s.heap e it i old) → s.heap.IsStrIter it (strIterType x) x t i → s₀.heap.get? G = some oG → s.heap.get? G = some oG → (∃ h tk, s = { s₀ with heap := h, toks := tk }) → (∃ pre, ys = pre ++ escs (x.cps.toList.drop i) i b) →
      Seg (model pw w) A (gEnd C G) (gProto C G ys) (escs (x.cps.toList.drop i) i b).length s₀ (gCode C e) ((model pw w).den (gCode C e)) (gFrame C p) s := by
  intro k
  have W := walksE (w := w) (A := A.over (gCode C e) (gFrame C p)) hh (Nat.ne_of_gt hie) x t
  induction k with
  | zero =>
    intro i b s₀ s m oG hk hi F hesc hpos hen hst hG0 hG hs hsuf
    have hin : i = x.cps.size := by omega
    subst hin
    have hnil : x.cps.toList.drop x.cps.size = [] := List.drop_eq_nil_of_le (by simp)
    rw [hnil] at hsuf ⊢
    refine seg_forLoop (W.done s _ _ ⟨hen, hst⟩ fun h' tk hkeep => ?_)
    dsimp only
    obtain ⟨h1, tk1, rfl⟩ := hs
    have F' := fr_but (by omega) hie F hkeep
    have hG' := hkeep G oG (notIn2 (by omega) (by omega)) hG
    exact seg_leaf (.ok .next) (seg_rest ys _ b s₀ { s₀ with heap := h', toks := tk } m oG hCG F' hesc hpos hG0 hG' ⟨h', tk, rfl⟩ hsuf)
  | succ k ih =>
    intro i b s₀ s m oG hk hi F hesc hpos hen hst hG0 hG hs hsuf
    have hlt : i < x.cps.size := by omega
    have hdr : x.cps.toList.drop i = x.cps[i] :: x.cps.toList.drop (i + 1) := by
      rw [List.drop_eq_getElem_cons (by simpa using hlt)]; simp
    rw [hdr] at hsuf ⊢
    obtain ⟨h0, tk0, rfl⟩ := hs
    dsimp only at F hen hst hG
    have eT : fTgt gFor = .Tuple (tEls (fTgt gFor)) 0 (fTgt gFor).pos := rfl
    refine seg_forLoop (W.item i { s₀ with heap := h0, toks := tk0 } _ _ hlt ⟨hen, hst⟩ fun T vals h1 tk1 hP _ hT hMid hk1 => ?_)
    dsimp only
    rw [eT]
    refine W.go _ _ _ i T { s₀ with heap := h1, toks := tk1 } _ _ hMid fun h2 hst2 hk2 => ?_
    have hT2 : IsTup h2 T vals := by
      obtain ⟨o, ho, r⟩ := hT
      exact ⟨o, hk2 T o (W.apart _ _ _ hMid) ho, r⟩
    obtain ⟨t', v, ⟨c, u, hc, rfl⟩, rfl⟩ := hP
    have hcc : c = x.cps[i] := by rw [Array.getElem?_eq_getElem hlt] at hc; exact (Option.some.inj hc).symm
    subst hcc
    have F2 := fr_but (by omega) hie (fr_but (by omega) hie F hk1) hk2
    have hG2 := hk2 G oG (notIn2 (by omega) (by omega)) (hk1 G oG (notIn2 (by omega) (by omega)) hG)
    obtain ⟨⟨old, he2⟩, oi, hoi, hci, hdi⟩ := hst2
    have tn : ∀ b : Nat, C < b → (trunc C s₀.heap).get? b = none := by
      intro b hb
      cases q : (trunc C s₀.heap).get? b with
      | none => rfl
      | some o => exact absurd (trunc_get.mp q).1 (by omega)
    have N2 : News (trunc C s₀.heap) C h2 [(G, oG), (e, _), (it, oi)] := news_cons.mpr ⟨⟨hG2, Nat.ne_of_gt hCG, tn G hCG⟩, news_cons.mpr ⟨⟨he2, Nat.ne_of_gt (Nat.lt_trans hCG (Nat.lt_trans hGi hie)), tn e (by omega)⟩, news_cons.mpr ⟨⟨hoi, Nat.ne_of_gt (Nat.lt_trans hCG hGi), tn it (by omega)⟩, News.nil⟩⟩⟩
    have hh' : (A.over (gCode C e) (gFrame C p)).handled = none := hh
    conv in (tEls (fTgt gFor)) => whnf
    refine unpackN_ F2 N2 hT2 hh' rfl rfl ?_
    intro h3 F3 N3
    replace F3 := Fr.kn (kn := [(Str.ofString "escape", .bool b)]) F3 ⟨hesc, trivial⟩
    dsimp only [over] at F3
    repeat' walk1
    rename_i h4 F4 N4 h5 F5 N5
    have eB : fBody gFor = [(fBody gFor).headD (.Pass default)] := rfl
    rw [eB]
    conv in (List.headD (fBody gFor) _) => whnf
    obtain ⟨pre, hsuf⟩ := hsuf
    have hGt := tn G hCG
    refine seg_execs_cons (seg_If ?_)
    have led : ∀ (h6 : Heap) (s'' : Shared), News (trunc C s₀.heap) C h6 [(G, oG), (e, { cls := Value.type "enumerate", data := Data.fields #[Value.none, Value.bool false, Value.ref it, rawInt ↑(i + 1), Value.none, old] }), (it, oi)] →
        (∀ (b : Nat) o, C ≤ b → h6.get? b = some o → s''.heap.get? b = some o) →
        News (trunc C s''.heap) C s''.heap [(G, oG), (e, { cls := Value.type "enumerate", data := Data.fields #[Value.none, Value.bool false, Value.ref it, rawInt ↑(i + 1), Value.none, old] }), (it, oi)] := by
      intro h6 s'' N6 hst6 q hq
      have h7 := N6 q hq
      have hCq : C < q.1 := by
        rcases List.mem_cons.mp hq with rfl | hq
        · exact hCG
        rcases List.mem_cons.mp hq with rfl | hq
        · exact Nat.lt_trans hCG (Nat.lt_trans hGi hie)
        have := List.mem_singleton.mp hq
        subst this
        exact Nat.lt_trans hCG hGi
      refine ⟨hst6 q.1 q.2 (Nat.le_of_lt hCq) h7.1, h7.2.1, ?_⟩
      cases z : (trunc C s''.heap).get? q.1 with
      | none => rfl
      | some o => exact absurd (trunc_get.mp z).1 (Nat.lt_asymm hCq)
    cases b with
    | true =>
      repeat' walk1
      show Seg _ _ _ _ ((escs (List.drop (i + 1) x.cps.toList) (i + 1) false).length + 1) _ _ _ _ _
      refine seg_execs_cons (seg_Expr_Yield rfl rfl rfl ?_)
      repeat' walk1
      rename_i h6 F6 N6 kap hkap
      refine ⟨⟨_, i, _, _, _, _, rfl, suffix_drop hsuf, N6.isTup (.head _)⟩, fr_since F6 hG0 (N6.get (.tail _ (.head _))), fun s'' hst6 => hkap .none s'' ?_⟩
      dsimp only at hst6
      have N7 := led h6 s'' (fun q hq => N6 q (.tail _ hq)) hst6
      have F7 := fr_resume (ns_stable F6.ns hst6)
      have hG7 : s''.heap.get? G = some oG := N7.get (.head _)
      clear hkap N6 F6 F5 N5 F4 N4 F3 N3 F2 N2 F
      refine seg_wp ?_
      repeat' walk1
      rename_i h8 F8 N8
      refine seg_again rfl (ih (i + 1) false s'' _ _ oG (by omega) hlt F8 rfl ⟨t', rfl⟩ ⟨old, N8.get (.tail _ (.head _))⟩ ⟨oi, N8.get (.tail _ (.tail _ (.head _))), hci, hdi⟩ hG7 (N8.get (.head _)) ⟨_, _, rfl⟩ ⟨pre ++ [(i, Str.ofString "\\" ++ ⟨#[x.cps[i]]⟩)], by rw [hsuf, List.append_assoc]; rfl⟩)
    | false =>
      repeat' walk1
      refine seg_execs_cons (seg_If ?_)
      repeat' walk1
      · rename_i hce
        have e1 : escs (x.cps[i] :: List.drop (i + 1) x.cps.toList) i false = escs (List.drop (i + 1) x.cps.toList) (i + 1) true := by simp only [escs, hce, if_true]
        rw [e1] at hsuf ⊢
        refine seg_wp ?_
        repeat' walk1
        rename_i h8 F8 N8
        exact seg_again rfl (ih (i + 1) true s₀ _ _ oG (by omega) hlt F8 rfl ⟨t', rfl⟩ ⟨old, N8.get (.tail _ (.head _))⟩ ⟨oi, N8.get (.tail _ (.tail _ (.head _))), hci, hdi⟩ hG0 (N8.get (.head _)) ⟨_, _, rfl⟩ ⟨pre, hsuf⟩)
      · rename_i hce
        have e1 : escs (x.cps[i] :: List.drop (i + 1) x.cps.toList) i false = (i, ⟨#[x.cps[i]]⟩) :: escs (List.drop (i + 1) x.cps.toList) (i + 1) false := by simp only [escs, hce]; rfl
        rw [e1] at hsuf ⊢
        rw [List.length_cons]
        refine seg_execs_cons (seg_Expr_Yield rfl rfl rfl ?_)
        repeat' walk1
        rename_i h6 F6 N6 kap hkap
        refine ⟨⟨_, i, _, _, _, _, rfl, suffix_drop hsuf, N6.isTup (.head _)⟩, fr_since F6 hG0 (N6.get (.tail _ (.head _))), fun s'' hst6 => hkap .none s'' ?_⟩
        dsimp only at hst6
        have N7 := led h6 s'' (fun q hq => N6 q (.tail _ hq)) hst6
        have F7 := fr_resume (ns_stable F6.ns hst6)
        have hG7 : s''.heap.get? G = some oG := N7.get (.head _)
        refine seg_again rfl (ih (i + 1) false s'' s'' _ oG (by omega) hlt F7 rfl ⟨t', rfl⟩ ⟨old, N7.get (.tail _ (.head _))⟩ ⟨oi, N7.get (.tail _ (.tail _ (.head _))), hci, hdi⟩ hG7 hG7 ⟨s''.heap, s''.toks, rfl⟩ ⟨pre ++ [(i, ⟨#[x.cps[i]]⟩)], by rw [hsuf, List.append_assoc]; rfl⟩)
end Mine

namespace Mine
def fIter : Stmt → Expr
  | .For _ i _ _ _ => i
  | _ => .Constant .none 0 default
def fPos : Stmt → Pos
  | .For _ _ _ _ p => p
  | _ => default
local macro_rules | `(tactic| walk_at "eval Name") => `(tactic| (refine bname (by assumption) (by assumption) (by decide) bb_enumerate ?_))
local macro_rules | `(tactic| walk_at "call type:enumerate") => `(tactic| ((with_reducible show wpAny _ _ (call (Value.type "enumerate") [Value.str _ _]) _ _ _); refine call_enumerate_str ?_; intro _ _ _ _ _))

set_option maxRecDepth 100000 in
set_option maxHeartbeats 4000000 in
theorem seg_start {w : World} {A : Around} {mg mb : Map} {hh0 : Heap} (S : Stat mg mb hh0) (hh : A.handled = none) {C G : Nat} (x : Str) (t : Tok) (hCG : C < G) (oG : Obj) (s₀ : Shared) (m : Map) (hns : s₀.heap.Ns C m) (hm : m "addr" = some (.str x t))
    (hk : ∀ (b : Nat) o, hh0.get? b = some o → b < C ∧ s₀.heap.get? b = some o) (hG : s₀.heap.get? G = some oG) :
    Seg (model pw w) A (gEnd C G) (gProto C G (escs x.cps.toList 0 false)) (escs x.cps.toList 0 false).length s₀ (.func (bodyOf (stm 2)) (gEnv C)) ((model pw w).den (.func (bodyOf (stm 2)) (gEnv C))) [] s₀ := by
  refine seg_func ?_
  have S' : Stat mg mb (trunc C s₀.heap) := S.keeps fun b o e => trunc_get.mpr (hk b o e)
  have F := Fr.kn (kn := [(Str.ofString "addr", .str x t)]) (fr_resume hns) ⟨hm, trivial⟩
  dsimp only [over] at F
  have tn : ∀ b : Nat, C < b → (trunc C s₀.heap).get? b = none := by
    intro b hb
    cases q : (trunc C s₀.heap).get? b with
    | none => rfl
    | some o => exact absurd (trunc_get.mp q).1 (by omega)
  have N : News (trunc C s₀.heap) C s₀.heap [(G, oG)] := news_cons.mpr ⟨⟨hG, Nat.ne_of_gt hCG, tn G hCG⟩, News.nil⟩
  have eB : bodyOf (stm 2) = (bodyOf (stm 2)).getD 0 (.Pass default) :: (bodyOf (stm 2)).getD 1 (.Pass default) :: gFor :: gRest := rfl
  show Seg _ _ _ _ _ _ _ ((execs (bodyOf (stm 2)) (gEnv C)).wrap kF (hF C) id id) _ _
  generalize hcode : Code.func (bodyOf (stm 2)) (gEnv C) = code
  rw [eB]
  conv in (List.getD (bodyOf (stm 2)) 0 _) => whnf
  conv in (List.getD (bodyOf (stm 2)) 1 _) => whnf
  refine seg_wp ?_
  repeat' walk1
  refine seg_wp ?_
  repeat' walk1
  rename_i h2 F2 N2
  subst hcode
  have eF : gFor = .For (fTgt gFor) (fIter gFor) (fBody gFor) [] (fPos gFor) := rfl
  refine seg_execs_cons ?_
  conv in (exec gFor _) => rw [eF]
  refine seg_For ?_ (by intro _; rfl)
  conv in (fIter gFor) => whnf
  iterate 6 walk1
  have hG2 : h2.get? G = some oG := N2.get (.head _)
  have hGl : G < h2.objs.size := Heap.lt_size hG2
  refine call_enumerate_str fun h3 he hit hsz hk3 => ?_
  dsimp only at he hit hsz hk3
  have F3 : Fr (trunc C s₀.heap) C h3 _ := ⟨F2.ns.keeps hk3, fun b o e => hk3 b o (F2.keep b o e), F2.above⟩
  have W := walksE (w := w) (A := A.over (Code.func (bodyOf (stm 2)) (gEnv C)) []) hh (Nat.succ_ne_self h2.objs.size) x t
  refine W.self 0 _ _ _ ⟨⟨.none, he⟩, hit⟩ ?_
  intro p
  have q := seg_loop (w := w) (A := A) hh x t (escs x.cps.toList 0 false) hCG (show G < h2.objs.size from hGl) (Nat.lt_succ_self _) p x.cps.size 0 false s₀ { s₀ with heap := h3, toks := s₀.toks + 1 + 1 + 1 } _ oG (Nat.sub_zero _) (Nat.zero_le _) F3 rfl ⟨_, rfl⟩ ⟨.none, he⟩ hit hG (hk3 G oG hG2) ⟨_, _, rfl⟩ ⟨[], rfl⟩
  exact q

/-- the generator, ready for what is left of its list -/
def GenOk (w : World) (A : Around) (hh0 : Heap) (C G g : Nat) (ys : List (Nat × Str)) (j : Nat) (s : Shared) : Prop :=
  s.heap.IsGen G g ∧ ∃ gs, s.gens[g]? = some gs ∧ ∀ s'' : Shared, (∀ (b : Nat) o, hh0.get? b = some o → b < C ∧ s''.heap.get? b = some o) → (∀ (b : Nat) o, C ≤ b → s.heap.get? b = some o → s''.heap.get? b = some o) →
    gs.Goes (model pw w) A.in1 (gEnd C G) (gProto C G ys) (ys.length - j) (.send .none) s''
theorem GenOk.stable {w : World} {A : Around} {hh0 : Heap} {C G g : Nat} {ys : List (Nat × Str)} {j : Nat} {s s' : Shared} (x : GenOk w A hh0 C G g ys j s) (hCG : C ≤ G) (hk : ∀ (b : Nat) o, C ≤ b → s.heap.get? b = some o → s'.heap.get? b = some o) (hg : s'.gens = s.gens) : GenOk w A hh0 C G g ys j s' := by
  obtain ⟨⟨o, nm, qn, ho, r⟩, gs, hgs, hgo⟩ := x
  exact ⟨⟨o, nm, qn, hk G o hCG ho, r⟩, gs, hg ▸ hgs, fun s'' h1 h2 => hgo s'' h1 fun b o hb e => h2 b o hb (hk b o hb e)⟩

theorem gen_next {w : World} {A : Around} {hh0 : Heap} {C G g : Nat} {ys : List (Nat × Str)} {j : Nat} {s : Shared} {E : Value → Shared → Prop} {Q : Option Value → Shared → Prop} (hh : A.handled = none) (hroom : A.depth < recursionLimit) (hl : s.heap.NoLimit) (hCG : C < G)
    (hs0 : ∀ (b : Nat) o, hh0.get? b = some o → b < C ∧ s.heap.get? b = some o) (hG : GenOk w A hh0 C G g ys j s)
    (item : ∀ T p ch rest tk tk' h' t' gs', ys.drop j = (p, ch) :: rest → IsTup h' T #[.int ((p : Nat) : Int) tk, .str ch tk'] → (∀ (b : Nat) o, b < C → s.heap.get? b = some o → h'.get? b = some o) →
      GenOk w A hh0 C G g ys (j + 1) { s with heap := h', toks := t', gens := s.gens.setIfInBounds g gs' } → Q (some (.ref T)) { s with heap := h', toks := t', gens := s.gens.setIfInBounds g gs' })
    (done : ∀ h' t', ys.length ≤ j → (∀ (b : Nat) o, b < C → s.heap.get? b = some o → h'.get? b = some o) → Q none { s with heap := h', toks := t', gens := s.gens.setIfInBounds g .finished }) :
    wpAny (model pw w) A (pyNext (.ref G)) Q E s := by
  obtain ⟨hgen, gs, hgs, hgo⟩ := hG
  obtain ⟨oG, nm, qn, hoG, hgr⟩ := id hgen
  have hgo' := hgo (s.setGen g .running) hs0 fun _ _ _ e => e
  have hset : ∀ (a : Array GenState) x y, (a.setIfInBounds g x).setIfInBounds g y = a.setIfInBounds g y := by intro a x y; simp
  refine wpAny_pyNext_gen (P := fun n s₀ s₁ => n = 0 ∧ Since C G s₀ s₁) hh hl hroom hgen hgs hgo' (fun v s₁ gs' hv => ?_) (fun s₁ hp h' hk' => ?_)
  · obtain ⟨⟨T, p, ch, rest, tk, tk', rfl, hdr, hT⟩, ⟨h1, t1, rfl, hk1⟩, hkap⟩ := hv
    cases hn : ys.length - j with
    | zero =>
      rw [hn] at hkap
      exact (hkap _ fun _ _ _ e => e).elim
    | succ n =>
      rw [hn] at hdr hkap
      have hj : ys.length - 1 - (n + 1 - 1) = j := by omega
      rw [hj] at hdr
      have e : ({ s.setGen g .running with heap := h1, toks := t1 } : Shared).setGen g gs' = { s with heap := h1, toks := t1, gens := s.gens.setIfInBounds g gs' } := by
        show Shared.mk _ _ _ _ _ = _
        simp only [Shared.setGen, hset]
      rw [e]
      refine item T p ch rest tk tk' h1 t1 gs' hdr hT (fun b o hb e => hk1 b o (.inl hb) e) ⟨⟨oG, nm, qn, hk1 G oG (.inr rfl) hoG, hgr⟩, gs', ?_, fun s'' h2 h3 => ?_⟩
      · have hlt : g < s.gens.size := by
          rcases Nat.lt_or_ge g s.gens.size with h' | h'
          · exact h'
          · rw [Array.getElem?_eq_none h'] at hgs; cases hgs
        simp [hlt]
      · have : ys.length - (j + 1) = n := by omega
        rw [this]
        exact hkap s'' h3
  · obtain ⟨h0, h1, t1, rfl, hk1⟩ := hp
    have e : ({ ({ s.setGen g .running with heap := h1, toks := t1 } : Shared).setGen g .finished with heap := h' } : Shared) = { s with heap := h', toks := t1, gens := s.gens.setIfInBounds g .finished } := by
      simp only [Shared.setGen, hset]
    rw [e]
    exact done h' t1 (by omega) fun b o hb q => hk' b o (hk1 b o (.inl hb) q)
end Mine

namespace Mine
abbrev lst (its : Array Value) (n : Nat) : Obj := { cls := .type "list", data := .seq its n }
theorem append_hd {w : World} {A : Around} {E : Value → Shared → Prop} {s : Shared} {h₀ : Heap} {L D : Addr} {m : Map} {its : Array Value} {n : Nat} {v : Value} {post : Led} {Q : Value → Shared → Prop}
    (F : Fr h₀ L s.heap m) (N : News h₀ L s.heap ((D, lst its n) :: post)) (hne : ∀ p ∈ post, p.1 ≠ D)
    (h : ∀ h', Fr h₀ L h' m → News h₀ L h' ((D, lst (its.push v) (n + 1)) :: post) → Q .none { s with heap := h' }) (hsz : its.size ≤ sizeLine := by size_fits) :
    wpAny (model pw w) A (call (.builtin "list.append") [.ref D, v]) Q E s :=
  append_at (hsz := hsz) (N.get (.head _)) fun h' hs ho' => h h' (F.change hs (N _ (.head _)).2.1 (N _ (.head _)).2.2) (N.setHead hne hs ho')
/-- the objects from an address on -/
def above (C : Nat) (h : Heap) : Led := (List.range h.objs.size).filterMap fun b => if C ≤ b then (h.get? b).map fun o => (b, o) else none
theorem mem_above {C : Nat} {h : Heap} {p : Addr × Obj} : p ∈ above C h ↔ C ≤ p.1 ∧ h.get? p.1 = some p.2 := by
  obtain ⟨b, o⟩ := p
  unfold above
  rw [List.mem_filterMap]
  constructor
  · rintro ⟨a, _, e⟩
    split at e
    · rename_i hc
      cases q : h.get? a with
      | none => rw [q] at e; cases e
      | some o' => rw [q] at e; cases e; exact ⟨hc, q⟩
    · cases e
  · rintro ⟨hc, e⟩
    exact ⟨b, List.mem_range.mpr (Heap.lt_size e), by rw [if_pos hc, e]; rfl⟩

theorem iter_call {w : World} {A : Around} {s : Shared} {mg mb : Map} {x : Str} {t : Tok} {h₀ : Heap} {L : Addr} {m : Map} {news : Led} {Q E : Value → Shared → Prop} (S : Stat mg mb h₀) (F : Fr h₀ L s.heap m) (N : News h₀ L s.heap news) (hd : A.depth < recursionLimit) (hh : A.handled = none)
    (h : ∀ (C G : Nat) h' tk gs, Fr h₀ L h' m → News h₀ L h' news → (∀ p ∈ news, p.1 < C) → L < C → h₀.objs.size ≤ C → C < G →
      GenOk w A h₀ C G s.gens.size (escs x.cps.toList 0 false) 0 { s with heap := h', toks := tk, gens := s.gens.push gs } → Q (.ref G) { s with heap := h', toks := tk, gens := s.gens.push gs }) :
    wpAny (model pw w) A (call (.ref 38) [.str x t]) Q E s := by
  have Ss := S.keeps F.keep
  obtain ⟨o, pm, doc, h1, h2, h3⟩ := Ss.defs (38, 2, 37) (by decide)
  refine wpAny_call (codeAny_call_generator (body := bodyOf (stm 2)) hd h1 h2 rfl rfl rfl h3 ?_)
  have hb : bindArgs (docDef (nameOf (stm 2)) (parsOf (stm 2)) (bodyOf (stm 2)) (scopeOf (stm 2)) pm (.ref 37) doc) ⟨[.str x t], []⟩ = pure [(Str.ofString "addr", .str x t)] := rfl
  rw [hb]
  have hcell : ∀ y ∈ (scopeOf (stm 2)).names, y.2 ≠ NameKind.cell := by decide
  refine wpAny_pure (wpAny_newFunctionEnv hcell (locs rfl) (fun h₁ hns hsb => ⟨Ss.nolimit.fresh _ hsb, ?_⟩) rfl)
  dsimp only
  have hsz : h₁.objs.size = s.heap.objs.size + 1 := by rw [hsb.1, Heap.size_push]
  have keep1 : ∀ b o, s.heap.get? b = some o → h₁.get? b = some o := fun b o e => hsb.extBut b o (Nat.ne_of_lt (Heap.lt_size e)) (Heap.get?_push_of_some _ e)
  have keep2 : ∀ ob b o, s.heap.get? b = some o → (h₁.push ob).get? b = some o := fun ob b o e => Heap.get?_push_of_some _ (keep1 b o e)
  have hLs : L < s.heap.objs.size := F.ns.lt
  refine h s.heap.objs.size h₁.objs.size _ _ _ ⟨F.ns.keeps (keep2 _), fun b o e => keep2 _ b o (F.keep b o e), F.above⟩ (fun p hp => ⟨keep2 _ _ _ (N p hp).1, (N p hp).2⟩) (fun p hp => Heap.lt_size (N p hp).1) hLs (Nat.le_trans F.above (Nat.le_of_lt hLs)) (by rw [hsz]; exact Nat.lt_succ_self _) ?_
  refine ⟨⟨_, _, _, Heap.get?_push_size _ rfl, rfl, rfl, rfl⟩, _, Array.getElem?_push_size .., fun s'' hs0 hst => ⟨rfl, ?_⟩⟩
  have hCG : s.heap.objs.size < h₁.objs.size := by rw [hsz]; exact Nat.lt_succ_self _
  exact seg_start S (A := A.in1) hh x t hCG _ s'' _ (ns_stable (hns.push _) hst) rfl hs0 (hst _ _ (Nat.le_of_lt hCG) (Heap.get?_push_size _ rfl))

theorem go_gen {w : World} {A : Around} {E : Value → Shared → Prop} {s : Shared} {elts : List Expr} {x1} {pos : Pos} {G T : Addr} {g : Nat} {Q : Unit → Shared → Prop} (hg : s.heap.IsGen G g) (hQ : Q () s) :
    wpAny (model pw w) A (letOwnedTupleGo (.Tuple elts x1 pos) (.ref G) (.ref T)) Q E s := by
  obtain ⟨o, nm, qn, ho, hc, hd, _⟩ := hg
  unfold letOwnedTupleGo
  refine wpAny_bind (wpAny_load ho ?_)
  rw [hc, hd]
  show wpAny _ A (if (["enumerate", "zip", "dict_itemiterator", "dict_reverseitemiterator", "odict_iterator", "itertools.zip_longest", "itertools.pairwise"].contains "generator" &&
      (#[.int g 0, nm, qn] : Array Value)[0]? == some (rawInt T)) = true then _ else _) Q E s
  rw [if_neg (by
    intro h
    rw [show (["enumerate", "zip", "dict_itemiterator", "dict_reverseitemiterator", "odict_iterator", "itertools.zip_longest", "itertools.pairwise"].contains "generator") = false from by decide, Bool.false_and] at h
    cases h)]
  exact wpAny_pure hQ
theorem push_set {α : Type} (a : Array α) (x y : α) : (a.push x).setIfInBounds a.size y = a.push y := by
  apply Array.ext'
  simp [Array.setIfInBounds]

def GTurn (h₀ : Heap) (L : Addr) (K : Map → Led → Prop) (C : Nat) (h : Heap) (s : Shared) (g : Array GenState) (f : Flow) (s₃ : Shared) : Prop :=
  f = .next ∧ ∃ h' tk' m' n', s₃ = { s with heap := h', toks := tk', gens := g } ∧ Fr h₀ L h' m' ∧ News h₀ L h' (n' ++ above C h) ∧ (∀ p ∈ n', p.1 < C) ∧ K m' n'
theorem for_gen {w : World} {A : Around} {E : Value → Shared → Prop} {s : Shared} {env : Env} {els : List Expr} {tk0 : Nat} {tpos : Pos} {iter : Expr} {body : List Stmt} {pos : Pos} {Q : Flow → Shared → Prop} {h₀ : Heap} {L : Addr} {m mg mb : Map} {news : Led} {x : Str} {t : Tok}
    (K : Nat → Map → Led → Prop) (S : Stat mg mb h₀) (hh : A.handled = none) (hd : A.depth < recursionLimit) (F : Fr h₀ L s.heap m) (N : News h₀ L s.heap news)
    (hiter : ∀ Q' : Value → Shared → Prop, wpAny (model pw w) A (call (.ref 38) [.str x t]) Q' E s → wpAny (model pw w) A (eval iter env) Q' E s)
    (k0 : K 0 m news)
    (turn : ∀ (C j T p : Nat) (ch : Str) tk1 tk2 rest m₁ n₁ h tk g, (escs x.cps.toList 0 false).drop j = (p, ch) :: rest → IsTup h T #[.int (p : Int) tk1, .str ch tk2] → K j m₁ n₁ → Fr h₀ L h m₁ → News h₀ L h (n₁ ++ above C h) → (∀ p ∈ n₁, p.1 < C) → L < C →
      wpAny (model pw w) A (assign (.Tuple els tk0 tpos) env (.ref T)) (fun _ s₂ => wpAny (model pw w) A (execs body env) (GTurn h₀ L (K (j + 1)) C h s g) E s₂) E { s with heap := h, toks := tk, gens := g })
    (done : ∀ m' n' h' tk', K (escs x.cps.toList 0 false).length m' n' → Fr h₀ L h' m' → News h₀ L h' n' → Q .next { s with heap := h', toks := tk', gens := s.gens.push .finished })
    (hs : ∀ x, foldedSetIterable iter env x = pure x := by intro _; rfl)
    (hE : PassesOwn (model pw w) A env E := by passes_own) :
    wpAny (model pw w) A (exec (.For (.Tuple els tk0 tpos) iter body [] pos) env) Q E s := by
  generalize hys : escs x.cps.toList 0 false = ys at turn done
  refine wpAny_For (hiter _ (iter_call S F N hd hh fun C G h1 tk1 gs1 F1 N1 hNC hLC h0C hCG hGen => ?_)) hs
  rw [hys] at hGen
  refine wpAny_pyIter_gen hGen.1 ?_
  refine codeAny_forLoop_any (fun k s' => ∃ h' tk' gs' m' n' j, s' = { s with heap := h', toks := tk', gens := s.gens.push gs' } ∧ Fr h₀ L h' m' ∧ News h₀ L h' n' ∧ (∀ p ∈ n', p.1 < C) ∧ K j m' n' ∧ j ≤ ys.length ∧ GenOk w A h₀ C G s.gens.size ys j s' ∧ k = ys.length + 1 - j) ?_ (ys.length + 1)
    ⟨h1, tk1, gs1, m, news, 0, rfl, F1, N1, hNC, k0, Nat.zero_le _, hGen, rfl⟩
  rintro k s' ⟨h', tk', gs', m', n', j, rfl, F', N', hNC', hK, hj, hG', rfl⟩
  have h0lt : ∀ (b : Nat) o, h₀.get? b = some o → b < C ∧ h'.get? b = some o := fun b o e => ⟨Nat.lt_of_lt_of_le (Heap.lt_size e) h0C, F'.keep b o e⟩
  refine gen_next hh hd (S.nolimit.keeps F'.keep) hCG h0lt hG' ?_ ?_
  · intro T p ch rest tka tkb h2 tk2 gs2 hdr hT hk2 hG2
    rw [push_set] at hG2 ⊢
    have hjlt : j < ys.length := by
      rcases Nat.lt_or_ge j ys.length with q | q
      · exact q
      · rw [List.drop_eq_nil_of_le q] at hdr; cases hdr
    have F2 : Fr h₀ L h2 m' := ⟨F'.ns.at' fun o e => hk2 L o hLC e, fun b o e => hk2 b o (h0lt b o e).1 (F'.keep b o e), F'.above⟩
    have N2 : News h₀ L h2 (n' ++ above C h2) := by
      intro q hq
      rcases List.mem_append.mp hq with hq | hq
      · exact ⟨hk2 _ _ (hNC' q hq) (N' q hq).1, (N' q hq).2⟩
      · obtain ⟨hc, e⟩ := mem_above.mp hq
        refine ⟨e, Nat.ne_of_gt (Nat.lt_of_lt_of_le hLC hc), ?_⟩
        cases z : h₀.get? q.1 with
        | none => rfl
        | some o => exact absurd (h0lt _ _ z).1 (Nat.not_lt.mpr hc)
    dsimp only
    refine go_gen hG2.1 ?_
    refine wpAny_passesOwn hE (wpAny_mono (turn C j T p ch tka tkb rest m' n' h2 tk2 (s.gens.push gs2) hdr hT hK F2 N2 hNC' hLC) (fun _ s₂ q₂ => wpAny_passesOwn hE (wpAny_mono q₂ (fun f s₃ q₃ => ?_) fun _ _ e => e)) fun _ _ e => e)
    obtain ⟨rfl, h3, tk3, m3, n3, rfl, F3, N3, hn3, hK3⟩ := q₃
    refine ⟨ys.length + 1 - (j + 1), by omega, h3, tk3, gs2, m3, n3, j + 1, rfl, F3, (fun q hq => N3 q (List.mem_append_left _ hq)), hn3, hK3, hjlt, ?_, rfl⟩
    exact hG2.stable (Nat.le_of_lt hCG) (fun b o hb e => (N3 (b, o) (List.mem_append_right _ (mem_above.mpr ⟨hb, e⟩))).1) rfl
  · intro h2 tk2 hle hk2
    rw [push_set]
    have hin : j = ys.length := by omega
    subst hin
    dsimp only
    refine wpAny_execs_nil ?_
    exact done m' n' h2 tk2 hK ⟨F'.ns.at' fun o e => hk2 L o hLC e, fun b o e => hk2 b o (h0lt b o e).1 (F'.keep b o e), F'.above⟩ fun q hq => ⟨hk2 _ _ (hNC' q hq) (N' q hq).1, (N' q hq).2⟩

end Mine

namespace Mine
theorem StrsAre.snoc {vs : List Value} {ys : List Str} (h : StrsAre vs ys) (y : Str) (t : Tok) : StrsAre (vs ++ [.str y t]) (ys ++ [y]) := by
  induction h with
  | nil => exact .cons y t .nil
  | cons a b _ ih => exact .cons a b ih
theorem escs_len : ∀ (l : List Nat) (i : Nat) (b : Bool), (escs l i b).length ≤ l.length + (if b = true then 1 else 0)
  | [], i, false => by simp [escs]
  | [], i, true => by simp [escs]
  | c :: r, i, true => by have := escs_len r (i + 1) false; simp [escs] at this ⊢; omega
  | c :: r, i, false => by
    have h1 := escs_len r (i + 1) false
    have h2 := escs_len r (i + 1) true
    simp only [escs]
    split
    · simp at h2 ⊢; omega
    · simp at h1 ⊢; omega
abbrev Scan := Nat × Option Nat × List Str
def scanStep (x : Str) (st : Scan) (pc : Nat × Str) : Scan :=
  if (pc.2 == Str.ofString "\"") = true then match st.2.1 with
    | none => (st.1, some pc.1, st.2.2)
    | some q => (pc.1 + 1, none, if st.1 = q then st.2.2 else st.2.2 ++ [Txt.slice x (some (st.1 : Int)) (some (q : Int))])
  else st
def scanAll (x : Str) (ys : List (Nat × Str)) : Scan := ys.foldl (scanStep x) (0, none, [])
theorem scan_snoc {x : Str} {ys : List (Nat × Str)} {j : Nat} {pc : Nat × Str} {rest : List (Nat × Str)} (h : ys.drop j = pc :: rest) : scanAll x (ys.take (j + 1)) = scanStep x (scanAll x (ys.take j)) pc := by
  have : ys[j]? = some pc := by
    have := congrArg List.head? h
    rw [List.head?_drop] at this
    simpa using this
  unfold scanAll
  rw [List.take_add_one, this]
  simp
def opIs : Option Nat → Value → Prop
  | none, v => v = .none
  | some q, v => ∃ to, v = .int ((q : Nat) : Int) to
def SK (x : Str) (t : Tok) (r : Addr) (j : Nat) (m : Map) (n : Led) : Prop :=
  ∃ its nn ts ov, n = [(r, lst its nn)] ∧ Kn m [(Str.ofString "addr", .str x t), (Str.ofString "start", .int (((scanAll x ((escs x.cps.toList 0 false).take j)).1 : Nat) : Int) ts), (Str.ofString "open_pos", ov), (Str.ofString "result", .ref r)] ∧
    opIs (scanAll x ((escs x.cps.toList 0 false).take j)).2.1 ov ∧ StrsAre its.toList (scanAll x ((escs x.cps.toList 0 false).take j)).2.2 ∧ (scanAll x ((escs x.cps.toList 0 false).take j)).2.2.length ≤ j ∧ ∀ y ∈ (scanAll x ((escs x.cps.toList 0 false).take j)).2.2, y.length ≤ x.length

def stripR (x : Str) : Str := Txt.join (Str.ofString "") (if (scanAll x (escs x.cps.toList 0 false)).1 < x.length then (scanAll x (escs x.cps.toList 0 false)).2.2 ++ [Txt.slice x (some ((scanAll x (escs x.cps.toList 0 false)).1 : Int)) none] else (scanAll x (escs x.cps.toList 0 false)).2.2)
def stripV (x : Str) : Str := if (Builtin.Str.occurrences x (Str.ofString "\"") 0 x.length 1).isEmpty = true then x else stripR x
theorem sum_le {n : Nat} : ∀ {l : List Str}, (∀ y ∈ l, y.length ≤ n) → (l.map (·.length)).sum ≤ n * l.length
  | [], _ => by simp
  | a :: r, h => by
    have h1 := h a (.head _)
    have h2 := sum_le (l := r) fun y hy => h y (.tail _ hy)
    simp only [List.map_cons, List.sum_cons, List.length_cons, Nat.mul_add, Nat.mul_one]
    omega
theorem join_ok {l : List Str} (h : ∀ y ∈ l, y.length ≤ 300) (hl : l.length ≤ 301) : (l.map (·.length)).sum + l.length * 64 ≤ 16777216 := by
  have := sum_le h
  omega
local macro_rules | `(tactic| walk_at "eval Name") => `(tactic| first | (refine gname (by assumption) (by assumption) (by rfl) ?_) | (refine bname (by assumption) (by assumption) (by decide) bb_len ?_))
local macro_rules | `(tactic| walk_at "callWith ref") => `(tactic| (refine callWith_st (by assumption) (by rfl) ?_))
local macro_rules | `(tactic| walk_at "assign Tuple") => `(tactic| (with_reducible show wpAny _ _ (assign (Expr.Tuple _ _ _) _ (Value.ref _)) _ _ _); refine unpackN_ (by assumption) (by assumption) (by assumption) (by assumption) rfl rfl ?_; intro _ _ _)
local macro_rules | `(tactic| walk_at "call builtin:list.append") => `(tactic| ((with_reducible show wpAny _ _ (call (Value.builtin _) [Value.ref _, _]) _ _ _); refine append_hd (by assumption) (by assumption) (by first | assumption | exact fun _ h => nomatch h) ?_ (by assumption); intro _ _ _))

set_option maxRecDepth 100000 in
set_option maxHeartbeats 4000000 in
theorem strip_call {w : World} {A : Around} {s : Shared} {mg mb : Map} {x : Str} {t : Tok} {R : Result → Shared → Prop}
    (S : Stat mg mb s.heap) (hd : A.depth + 5 < recursionLimit) (hh : A.handled = none) (hx : x.length ≤ 300)
    (hR : ∀ h' tk t' g', (∀ b o, s.heap.get? b = some o → h'.get? b = some o) → (g' = s.gens ∨ g' = s.gens.push .finished) → R (.ok (.ret (.str (stripV x) t'))) { s with heap := h', toks := tk, gens := g' }) :
    codeAny (model pw w) A (.call (.ref 45) ⟨[.str x t], []⟩) R s := by
  obtain ⟨o, pm, doc, h1, h2, h3⟩ := S.defs (45, 3, 44) (by decide)
  refine call_plain_ret (binds := [("addr", .str x t)]) (by omega) h1 h2 S.nolimit h3 rfl (locs rfl) ?_ rfl rfl rfl (by decide)
  intro h₁ F
  conv in (bodyOf (stm (3, 44).1)) => whnf
  have N : News s.heap s.heap.objs.size h₁ [] := News.nil
  have hh' : (A.deeper (envOf (nameOf (stm 3)) (scopeOf (stm 3)) s.heap.objs.size 45 (Value.ref 44))).handled = none := hh
  have hd' : (A.deeper (envOf (nameOf (stm 3)) (scopeOf (stm 3)) s.heap.objs.size 45 (Value.ref 44))).depth < recursionLimit := by show A.depth + 1 < _; omega
  iterate 8 walk1
  split
  · rename_i hocc
    have hV : stripV x = stripR x := by unfold stripV; rw [if_neg (by simpa using hocc)]
    iterate 16 walk1
    rename_i h4 F4 N4
    refine for_gen (x := x) (t := t) (SK x t _) S hh' hd' F4 N4 ?iter ⟨#[], 0, _, .none, rfl, ⟨rfl, rfl, rfl, rfl, trivial⟩, rfl, .nil, Nat.le_refl _, fun _ h => nomatch h⟩ ?turn ?done
    case iter =>
      intro Q' h
      iterate 8 walk1
      exact h
    case turn =>
      rintro C j T p ch tk1 tk2 rest m n h tk g hdr hT ⟨its, nn, ts, ov, rfl, hkn, hop, hstr, hlen, hall⟩ F N hnC hLC
      replace F := Fr.kn F hkn
      dsimp only [over] at F
      have hjl : j < (escs x.cps.toList 0 false).length := by
        rcases Nat.lt_or_ge j (escs x.cps.toList 0 false).length with q | q
        · exact q
        · rw [List.drop_eq_nil_of_le q] at hdr; cases hdr
      have hel := escs_len x.cps.toList 0 false
      have hxs : x.cps.toList.length = x.length := by simp [Str.length]
      have hit : its.size ≤ sizeLine := by
        have := hstr.length
        rw [sizeLine_eq]
        simp only [Array.length_toList] at this
        simp only [hxs, Bool.false_eq_true, if_false, Nat.add_zero] at hel
        omega
      unfold SK
      rw [scan_snoc hdr]
      generalize scanAll x ((escs x.cps.toList 0 false).take j) = sc at *
      obtain ⟨st, op, sl⟩ := sc
      dsimp only at F hop hstr hlen hall
      rw [List.cons_append, List.nil_append] at N
      have hrC := hnC _ (.head _)
      have hrA : ∀ q ∈ above C h, q.1 ≠ _ := fun q hq => Nat.ne_of_gt (Nat.lt_of_lt_of_le (hnC _ (.head _)) (mem_above.mp hq).1)
      cases op with
      | none =>
        dsimp only [opIs] at hop
        subst hop
        repeat' walk1
        · rename_i hc _ _ _
          have e : scanStep x (st, none, sl) (p, ch) = (st, some p, sl) := by simp only [scanStep, hc, if_true]
          rw [e]
          exact ⟨rfl, _, _, _, [_], rfl, by assumption, by assumption, hnC, _, _, _, _, rfl, ⟨rfl, rfl, rfl, rfl, trivial⟩, ⟨_, rfl⟩, hstr, Nat.le_succ_of_le hlen, hall⟩
        · rename_i hc
          have e : scanStep x (st, none, sl) (p, ch) = (st, none, sl) := by simp only [scanStep, hc]; rfl
          rw [e]
          exact ⟨rfl, _, _, _, [_], rfl, by assumption, by assumption, hnC, _, _, _, _, rfl, ⟨rfl, rfl, rfl, rfl, trivial⟩, rfl, hstr, Nat.le_succ_of_le hlen, hall⟩
      | some q =>
        obtain ⟨to, rfl⟩ := hop
        have hc1 : (ch == Str.ofString "\"") = true → st ≠ q → scanStep x (st, some q, sl) (p, ch) = (p + 1, none, sl ++ [Txt.slice x (some (st : Int)) (some (q : Int))]) := by
          intro hc hn; simp only [scanStep, hc, if_true, hn, if_false]
        have hc2 : (ch == Str.ofString "\"") = true → st = q → scanStep x (st, some q, sl) (p, ch) = (p + 1, none, sl) := by
          intro hc hn; simp only [scanStep, hc, if_true, hn]
        have hc3 : (ch == Str.ofString "\"") = false → scanStep x (st, some q, sl) (p, ch) = (st, some q, sl) := by
          intro hc; simp only [scanStep, hc]; rfl
        repeat' walk1
        · rw [hc1 (by assumption) (by omega)]
          rename_i hA FA NA
          exact ⟨rfl, _, _, _, [(_, lst (its.push _) (nn + 1))], rfl, FA, NA, (fun z hz => by rw [List.mem_singleton.mp hz]; exact hrC), _, _, _, _, rfl, ⟨rfl, rfl, rfl, rfl, trivial⟩, rfl, by rw [Array.toList_push]; exact StrsAre.snoc hstr _ _, by simp only [List.length_append, List.length_singleton]; omega, fun y hy => by
            rcases List.mem_append.mp hy with hy | hy
            · exact hall y hy
            · rw [List.mem_singleton.mp hy]; assumption⟩
        · rw [hc2 (by assumption) (by omega)]
          exact ⟨rfl, _, _, _, [_], rfl, by assumption, by assumption, hnC, _, _, _, _, rfl, ⟨rfl, rfl, rfl, rfl, trivial⟩, rfl, hstr, Nat.le_succ_of_le hlen, hall⟩
        · rw [hc3 (by assumption)]
          exact ⟨rfl, _, _, _, [_], rfl, by assumption, by assumption, hnC, _, _, _, _, rfl, ⟨rfl, rfl, rfl, rfl, trivial⟩, ⟨_, rfl⟩, hstr, Nat.le_succ_of_le hlen, hall⟩
    case done =>
      rintro m n h tk ⟨its, nn, ts, ov, rfl, hkn, hop, hstr, hlen, hall⟩ F N
      replace F := Fr.kn F hkn
      dsimp only [over] at F
      rw [List.take_length] at hstr hlen hall hop F
      generalize hsc : scanAll x (escs x.cps.toList 0 false) = sc at *
      obtain ⟨st, op, sl⟩ := sc
      dsimp only at F hop hstr hlen hall
      have hel := escs_len x.cps.toList 0 false
      have hxs : x.cps.toList.length = x.length := by simp [Str.length]
      simp only [hxs, Bool.false_eq_true, if_false, Nat.add_zero] at hel
      have hit : its.size ≤ sizeLine := by
        have := hstr.length
        rw [sizeLine_eq]
        simp only [Array.length_toList] at this
        omega
      repeat' walk1
      · rename_i hlt _ _ _ _ _ _ _ hA FA NA
        have e : stripR x = Txt.join (Str.ofString "") (sl ++ [Txt.slice x (some (st : Int)) none]) := by unfold stripR; rw [hsc]; dsimp only; rw [if_pos (by omega)]
        refine join_listC (ys := sl ++ [Txt.slice x (some (st : Int)) none]) (News.isList NA (.head _)) (by rw [Array.toList_push]; exact StrsAre.snoc hstr _ _) (by decide) (join_ok ?_ ?_) (fun t' k => ?_)
        · intro y hy
          rcases List.mem_append.mp hy with hy | hy
          · exact Nat.le_trans (hall y hy) hx
          · rw [List.mem_singleton.mp hy]; exact Nat.le_trans (by assumption) hx
        · simp only [List.length_append, List.length_singleton]; omega
        · rw [← e, ← hV]; exact hR _ _ _ _ FA.keep (.inr rfl)
      · rename_i hlt
        have e : stripR x = Txt.join (Str.ofString "") sl := by unfold stripR; rw [hsc]; dsimp only; rw [if_neg (by omega)]
        refine join_listC (ys := sl) (News.isList N (.head _)) hstr (by decide) (join_ok (fun y hy => Nat.le_trans (hall y hy) hx) (by omega)) (fun t' k => ?_)
        rw [← e, ← hV]; exact hR _ _ _ _ F.keep (.inr rfl)
  · rename_i hocc
    have hV : stripV x = x := by unfold stripV; rw [if_pos (by simpa using hocc)]
    repeat' walk1
    rw [← hV]
    exact hR _ _ _ _ F.keep (.inl rfl)
end Mine

namespace Mine
open PySem.Sre (M)
def intOf : Expr → Nat
  | .Constant (.int i) _ _ => i.toNat
  | _ => 0
/-- the words of the pattern that row i of the text compiles -/
def codeOf : Stmt → Array Nat
  | .Assign _ (.Call _ (_ :: _ :: .List es _ :: _) _ _) _ => (es.map intOf).toArray
  | _ => #[]
abbrev cTok : Array Nat := codeOf (stm 7)
abbrev cQuo : Array Nat := codeOf (stm 8)
abbrev cVal : Array Nat := codeOf (stm 9)
abbrev cTwin : Array Nat := codeOf (stm 5)
abbrev cJoin : Array Nat := codeOf (stm 12)

theorem runFor_add (a b : Nat) : ∀ m : M, M.runFor (a + b) m = M.runFor b (M.runFor a m) := by
  induction a with
  | zero => intro m; simp [M.runFor]
  | succ a ih =>
    intro m
    rw [Nat.succ_add]
    by_cases h : m.outcome.isSome = true
    · have hb : ∀ k, M.runFor k m = m := by
        intro k; cases k with
        | zero => rfl
        | succ k => simp [M.runFor, h]
      rw [hb, hb, hb]
    · simp only [M.runFor, h]
      exact ih m.step
theorem runFor_done {m : M} (h : m.outcome.isSome = true) (k : Nat) : M.runFor k m = m := by
  cases k with
  | zero => rfl
  | succ k => simp [M.runFor, h]
theorem runFor_one {m : M} (h : m.outcome = none) : M.runFor 1 m = m.step := by simp [M.runFor, h]
/-- m goes to m' within n steps -/
def Goes (m m' : M) : Prop := ∃ n, n ≤ 100000 ∧ M.runFor n m = m'
theorem drive {w : World} {A : Around} {E : Value → Shared → Prop} {s : Shared} {Q : M → Shared → Prop} : ∀ (turns n : Nat) (m : M), n < 4 * turns → (M.runFor n m).outcome.isSome = true → Q (M.runFor n m) s → wpAny (model pw w) A (Builtin.Re.reDrive turns m) Q E s := by
  intro turns
  induction turns with
  | zero => intro n m hn; omega
  | succ k ih =>
    intro n m hn ho hq
    unfold Builtin.Re.reDrive
    dsimp only
    show wpAny _ _ (if (M.runFor 4 m).outcome.isSome = true then _ else _) _ _ _
    have hle : n ≤ 4 → M.runFor 4 m = M.runFor n m := fun h => by
      rw [show 4 = n + (4 - n) by omega, runFor_add, runFor_done ho]
    by_cases h4 : (M.runFor 4 m).outcome.isSome = true
    · rw [if_pos h4]
      have : M.runFor n m = M.runFor 4 m := by
        rcases Nat.le_total n 4 with h | h
        · exact (hle h).symm
        · rw [show n = 4 + (n - 4) by omega, runFor_add, runFor_done h4]
      exact wpAny_pure (this ▸ hq)
    · rw [if_neg h4]
      have hgt : 4 < n := by
        rcases Nat.lt_or_ge 4 n with h | h
        · exact h
        · rw [hle h] at h4; exact absurd ho h4
      have e : M.runFor n m = M.runFor (n - 4) (M.runFor 4 m) := by rw [← runFor_add]; congr 1; omega
      rw [e] at ho hq
      exact wpAny_bind (wpAny_rule (ih (n - 4) (M.runFor 4 m) (by omega) ho hq))
section
variable {w : World} {A : Around} {E : Value → Shared → Prop} {s : Shared}
theorem rules_any {f : Nat → Bool} {g : Nat → String} {Q : PUnit → Shared → Prop} (h : Q ⟨⟩ s) : ∀ l : List Nat, wpAny (model pw w) A (forIn l PUnit.unit fun i r => do
    if f i = true then rule (g i)
    pure PUnit.unit
    pure (ForInStep.yield PUnit.unit)) Q E s := by
  intro l
  induction l with
  | nil => exact wpAny_pure h
  | cons a l ih =>
    rw [List.forIn_cons]
    refine wpAny_bind ?_
    refine wpAny_mono (Q := fun r s' => r = ForInStep.yield PUnit.unit ∧ s' = s) (E := E) ?_ ?_ (fun _ _ e => e)
    · split
      · exact wpAny_bind (wpAny_rule (wpAny_pure ⟨rfl, rfl⟩))
      · exact wpAny_pure ⟨rfl, rfl⟩
    · rintro r s' ⟨rfl, rfl⟩
      exact ih
theorem run_end {n : Nat} {m : M} {Q : Option M → Shared → Prop} (hn : n < 2 ^ 60) (ho : (M.runFor n m).outcome = some .matched ∧ Q (some (M.runFor n m)) s ∨ (M.runFor n m).outcome = some .failed ∧ Q none s) :
    wpAny (model pw w) A (Builtin.Re.reRunToEnd m) Q E s := by
  unfold Builtin.Re.reRunToEnd
  refine wpAny_bind (drive (2 ^ 64) n m (by omega) (by rcases ho with h | h <;> rw [h.1] <;> rfl) ?_)
  refine wpAny_bind ?_
  refine rules_any ?_ _
  rcases ho with ⟨h1, h2⟩ | ⟨h1, h2⟩
  · rw [h1]; exact wpAny_pure h2
  · rw [h1]; exact wpAny_pure h2
end
end Mine

namespace Mine
open PySem.Sre (M)
abbrev MF := PySem.Sre.Frame
/-- a state of the machine: no loops, no outcome -/
abbrev ms (c t : Array Nat) (lim last : Nat) (whole : Bool) (start pc pos handed : Nat) (outm : Bool) (marks : Array (Option Nat)) (lm li : Int) (frames : List MF) (weight : Nat) (answer : Option Bool) (seen : Sre.Seen) : M :=
  { code := c, text := t, lim := lim, start := start, lastStart := last, wholeText := whole, mustAdvance := false, pc := pc, pos := pos, handed := handed, outermost := outm, marks := marks, lastmark := lm, lastindex := li, loops := #[], inner := none, frames := frames, weight := weight, answer := answer, seen := seen, outcome := none }
theorem op_fail : Sre.ops[0]? = some .FAILURE := rfl
theorem op_succ : Sre.ops[1]? = some .SUCCESS := rfl
theorem op_at : Sre.ops[6]? = some .AT := rfl
theorem op_in : Sre.ops[13]? = some .IN := rfl
theorem op_lit : Sre.ops[16]? = some .LITERAL := rfl
theorem op_mark : Sre.ops[17]? = some .MARK := rfl
theorem op_rep : Sre.ops[24]? = some .REPEAT_ONE := rfl
section
variable {c t : Array Nat} {lim last start pc pos handed : Nat} {whole outm : Bool} {marks : Array (Option Nat)} {lm li : Int} {frames : List MF} {weight : Nat} {seen : Sre.Seen}
theorem step_at0 (h1 : c.getD pc 0 = 6) (h2 : c.getD (pc + 1) 0 = 0) (hp : pc < c.size) :
    (ms c t lim last whole start pc 0 handed outm marks lm li frames weight none seen).step = ms c t lim last whole start (pc + 2) 0 handed outm marks lm li frames weight none ((seen.add 6).add 43) := by
  unfold M.step
  simp only [ms, Option.isSome_none, Bool.false_eq_true, if_false, hp, if_true]
  unfold M.exec
  simp only [M.word, Nat.add_zero, h1, h2, op_at, M.isAt]
  rfl
theorem step_atn (h1 : c.getD pc 0 = 6) (h2 : c.getD (pc + 1) 0 = 0) (hp : pc < c.size) (hpos : pos ≠ 0) :
    (ms c t lim last whole start pc pos handed outm marks lm li frames weight none seen).step = ms c t lim last whole start pc pos handed outm marks lm li frames weight (some false) ((seen.add 6).add 43) := by
  unfold M.step
  simp only [ms, Option.isSome_none, Bool.false_eq_true, if_false, hp, if_true]
  unfold M.exec
  have : (pos == 0) = false := by simpa using hpos
  simp only [M.word, Nat.add_zero, h1, h2, op_at, M.isAt, this]
  rfl
/-- a mark, the next in its turn -/
theorem step_mark {i : Nat} (h1 : c.getD pc 0 = 17) (h2 : c.getD (pc + 1) 0 = i) (hp : pc < c.size) (hi : (i : Int) ≤ lm + 1) :
    (ms c t lim last whole start pc pos handed outm marks lm li frames weight none seen).step =
      ms c t lim last whole start (pc + 2) pos handed outm (marks.setIfInBounds i (some pos)) (max lm i) (if i % 2 == 1 then ((i / 2 + 1 : Nat) : Int) else li) frames weight none (seen.add 17) := by
  unfold M.step
  simp only [ms, Option.isSome_none, Bool.false_eq_true, if_false, hp, if_true]
  unfold M.exec
  simp only [M.word, Nat.add_zero, h1, h2, op_mark, M.mark, hi, if_true]
theorem step_succ (h1 : c.getD pc 0 = 1) (hp : pc < c.size) (hw : whole = false ∨ pos = lim) :
    (ms c t lim last whole start pc pos handed outm marks lm li frames weight none seen).step = ms c t lim last whole start pc pos pos outm marks lm li frames weight (some true) (seen.add 1) := by
  unfold M.step
  simp only [ms, Option.isSome_none, Bool.false_eq_true, if_false, hp, if_true]
  unfold M.exec
  have : (outm && (whole && pos != lim || false && pos == start)) = false := by
    rcases hw with rfl | rfl <;> simp
  simp only [M.word, Nat.add_zero, h1, op_succ, this]
  rfl
theorem step_lit_no {ch : Nat} (h1 : c.getD pc 0 = 16) (h2 : c.getD (pc + 1) 0 = ch) (hp : pc < c.size) (hn : lim ≤ pos ∨ t.getD pos 0 ≠ ch) :
    (ms c t lim last whole start pc pos handed outm marks lm li frames weight none seen).step = ms c t lim last whole start pc pos handed outm marks lm li frames weight (some false) (seen.add 16) := by
  unfold M.step
  simp only [ms, Option.isSome_none, Bool.false_eq_true, if_false, hp, if_true]
  unfold M.exec
  simp only [M.word, Nat.add_zero, h1, op_lit]
  by_cases hl : lim ≤ pos
  · simp only [ge_iff_le, hl, if_true]; rfl
  · have hne : (t.getD pos 0 == ch) = false := by rcases hn with h | h; exact absurd h hl; simpa using h
    simp only [ge_iff_le, hl, if_false, Sre.accepts, h1, h2, op_lit, hne]; rfl
theorem step_lit {ch : Nat} (h1 : c.getD pc 0 = 16) (h2 : c.getD (pc + 1) 0 = ch) (hp : pc < c.size) (hl : pos < lim) (hn : t.getD pos 0 = ch) :
    (ms c t lim last whole start pc pos handed outm marks lm li frames weight none seen).step = ms c t lim last whole start (pc + 2) (pos + 1) handed outm marks lm li frames weight none (seen.add 16) := by
  unfold M.step
  simp only [ms, Option.isSome_none, Bool.false_eq_true, if_false, hp, if_true]
  unfold M.exec
  have hl' : ¬ lim ≤ pos := by omega
  have hne : (t.getD pos 0 == ch) = true := by simpa using hn
  simp only [M.word, Nat.add_zero, h1, op_lit, ge_iff_le, hl', if_false, Sre.accepts, h2, hne, Sre.itemWidth]
/-- a greedy run of one sign's class, then on -/
theorem step_rep {sk lo n : Nat} {seen' : Sre.Seen} (h1 : c.getD pc 0 = 24) (h2 : c.getD (pc + 1) 0 = sk) (h3 : c.getD (pc + 2) 0 = lo) (h4 : c.getD (pc + 3) 0 = 4294967295) (hp : pc < c.size) (hpl : pos ≤ lim) (hlim : lim ≤ 4294967295) (hlo : lo ≤ lim - pos)
    (hr : Sre.run c t (pc + 4) (lim - pos) pos 0 ((seen.add 24).add (c.getD (pc + 4) 0)) = .ok (n, seen')) (hn : lo ≤ n) (hw : weight + 1 ≤ 16777216) :
    (ms c t lim last whole start pc pos handed outm marks lm li frames weight none seen).step =
      ms c t lim last whole start (pc + 1 + sk) (pos + n) (pos + n) outm marks lm li ({ wait := .giveBack, pc := pc, pos := pos + n, outermost := outm, count := n, kept := { lastmark := lm, lastindex := li } } :: frames) (weight + 1) none seen' := by
  unfold M.step
  simp only [ms, Option.isSome_none, Bool.false_eq_true, if_false, hp, if_true]
  unfold M.exec
  have e1 : ¬ ((lo : Int) > (lim : Int) - pos) := by omega
  have e2 : ((lim : Int) - (pos : Int)).toNat = lim - pos := by omega
  have e3 : min 4294967295 (lim - pos) = lim - pos := by omega
  have e4 : ¬ n < lo := by omega
  have e5 : ¬ (weight + 1 + 0 > 16777216) := by omega
  simp only [M.word, Nat.add_zero, h1, op_rep, h2, h3, h4, e1, if_false, e2, Bool.false_eq_true, e3, hr, e4, M.afterRun, M.attempt, M.frame, M.keep, Option.isSome_none, List.size_toArray, List.length_nil, e5]
theorem step_rep_no {sk lo n : Nat} {seen' : Sre.Seen} (h1 : c.getD pc 0 = 24) (h2 : c.getD (pc + 1) 0 = sk) (h3 : c.getD (pc + 2) 0 = lo) (h4 : c.getD (pc + 3) 0 = 4294967295) (hp : pc < c.size) (hpl : pos ≤ lim) (hlim : lim ≤ 4294967295)
    (hr : Sre.run c t (pc + 4) (lim - pos) pos 0 ((seen.add 24).add (c.getD (pc + 4) 0)) = .ok (n, seen')) (hn : n < lo) :
    ∃ seen'', (ms c t lim last whole start pc pos handed outm marks lm li frames weight none seen).step = ms c t lim last whole start pc pos handed outm marks lm li frames weight (some false) seen'' := by
  unfold M.step
  simp only [ms, Option.isSome_none, Bool.false_eq_true, if_false, hp, if_true]
  unfold M.exec
  have e2 : ((lim : Int) - (pos : Int)).toNat = lim - pos := by omega
  have e3 : min 4294967295 (lim - pos) = lim - pos := by omega
  by_cases e1 : ((lo : Int) > (lim : Int) - pos)
  · refine ⟨seen.add 24, ?_⟩
    simp only [M.word, Nat.add_zero, h1, op_rep, h2, h3, h4, e1, if_true]; rfl
  · refine ⟨seen', ?_⟩
    simp only [M.word, Nat.add_zero, h1, op_rep, h2, h3, h4, e1, if_false, e2, Bool.false_eq_true, e3, hr, hn, if_true]; rfl
theorem res_true {wt : Sre.Wait} {fpc fpos : Nat} {fo : Bool} {cnt : Int} {kp : Sre.Kept} (hw : wt = .giveBack ∨ wt = .nextStart) :
    (ms c t lim last whole start pc pos handed outm marks lm li ({ wait := wt, pc := fpc, pos := fpos, outermost := fo, count := cnt, kept := kp } :: frames) weight (some true) seen).step =
      ms c t lim last whole start fpc fpos handed fo marks lm li frames (weight - (1 + kp.marks.size)) (some true) seen := by
  unfold M.step
  simp only [ms, Option.isSome_none, Bool.false_eq_true, if_false]
  unfold M.resume
  rcases hw with rfl | rfl <;> simp only [if_true] <;> rfl
theorem res_end : (ms c t lim last whole start pc pos handed outm marks lm li [] weight (some true) seen).step = { ms c t lim last whole start pc pos handed outm marks lm li [] weight (some true) seen with outcome := some .matched } := rfl
theorem res_fail : (ms c t lim last whole start pc pos handed outm marks lm li [] weight (some false) seen).step = { ms c t lim last whole start pc pos handed outm marks lm li [] weight (some false) seen with outcome := some .failed } := rfl
/-- nothing to give back -/
theorem res_give0 {fpc fpos : Nat} {fo : Bool} {km ki : Int} (h3 : c.getD (fpc + 2) 0 = 0) :
    (ms c t lim last whole start pc pos handed outm marks lm li ({ wait := .giveBack, pc := fpc, pos := fpos, outermost := fo, count := ((0 : Nat) : Int), kept := { lastmark := km, lastindex := ki } } :: frames) weight (some false) seen).step =
      ms c t lim last whole start fpc fpos handed fo marks km ki frames (weight - 1) (some false) seen := by
  unfold M.step
  simp only [ms, Option.isSome_none, Bool.false_eq_true, if_false]
  unfold M.resume
  have : ((0 : Nat) : Int) - 1 < ((c.getD (fpc + 2) 0 : Nat) : Int) := by rw [h3]; decide
  simp only [Bool.false_eq_true, if_false, M.word, this, if_true]; rfl
end
end Mine

namespace Mine
open PySem.Sre (M)
theorem op_info : Sre.ops[14]? = some .INFO := rfl
theorem runFor_succ {m : M} (h : m.outcome = none) (n : Nat) : M.runFor (n + 1) m = M.runFor n m.step := by simp [M.runFor, h]
abbrev ns (b s : Nat) (o : Bool) : MF := { wait := .nextStart, pc := b, pos := s, outermost := o }
theorem forSearch_eq {c t : Array Nat} {g pos lim least : Nat} (h0 : c.getD 0 0 = 14) (h1 : c.getD 1 0 = 4) (h2 : c.getD 2 0 = 0) (h3 : c.getD 3 0 = least) (hpl : pos ≤ lim) (hl : least ≤ lim - pos) :
    Sre.forSearch c t g pos lim false = ms c t lim (if least > 1 then max pos (lim - (least - 1)) else lim) false pos 5 pos pos true (Array.replicate (2 * g) none) (-1) (-1) [ns 5 pos true] 1 none (({} : Sre.Seen).add 14) := by
  have e0 : Sre.forSearch c t g pos lim false = (let m : M := { code := c, text := t, lim := lim, start := pos, pc := (Sre.header c).2, pos := pos, handed := pos, marks := Array.replicate (2 * g) none, mustAdvance := false, seen := if (Sre.header c).2 == 0 then {} else ({} : Sre.Seen).add 14 }
      let least := (Sre.header c).1
      let hinted := (Sre.header c).2 != 0 && c.getD 2 0 &&& 5 != 0
      if pos > lim || lim - pos < least then m.say false
      else { m with lastStart := if least > 1 && !hinted then max pos (lim - (least - 1)) else lim }.attemptFrom pos true) := rfl
  rw [e0]
  have e1 : Sre.header c = (least, 5) := by unfold Sre.header; rw [h0, op_info]; simp only [h1, h3]
  have e3 : ¬ (pos > lim ∨ lim - pos < least) := by omega
  have e4 : ∀ x : Bool, (x && (0 == 4)) = false := by intro x; cases x <;> rfl
  have e5 : (decide (least > 1) && !((5 : Nat) != 0 && (0 : Nat) &&& 5 != 0)) = decide (least > 1) := by
    cases decide (least > 1) <;> rfl
  have e6 : ¬ (0 + 1 + 0 > 16777216) := by omega
  simp only [e1, h2, Bool.or_eq_true, decide_eq_true_eq, e3, if_false, M.attemptFrom, M.hasFirstSet, e4, Bool.not_false, if_true, M.attemptAt, M.attempt, List.size_toArray, List.length_nil, e5, e6]
  rfl
section
variable {c t : Array Nat} {lim last start pc pos handed : Nat} {whole outm : Bool} {marks : Array (Option Nat)} {lm li : Int} {frames : List MF} {weight : Nat} {seen : Sre.Seen}
theorem res_next {b s : Nat} {fo : Bool} (h2 : c.getD 2 0 = 0) (hlt : s < last) (hw : weight ≤ 100) :
    (ms c t lim last whole start pc pos handed outm marks lm li (ns b s fo :: frames) weight (some false) seen).step =
      ms c t lim last whole (s + 1) b (s + 1) (s + 1) false marks (-1) (-1) (ns b (s + 1) false :: frames) (weight - 1 + 1) none seen := by
  unfold M.step
  simp only [ms, Option.isSome_none, Bool.false_eq_true, if_false]
  unfold M.resume
  have e1 : ¬ (weight - (1 + 0) + 1 + 0 > 16777216) := by omega
  have e0 : ∀ x : Bool, (x && (0 == 4)) = false := by intro x; cases x <;> rfl
  simp only [Bool.false_eq_true, if_false, hlt, if_true, M.attemptFrom, M.hasFirstSet, h2, e0, Bool.not_false, M.attemptAt, M.attempt, List.size_toArray, List.length_nil, e1]
theorem res_last {b s : Nat} {fo : Bool} (hlt : ¬ s < last) :
    (ms c t lim last whole start pc pos handed outm marks lm li (ns b s fo :: frames) weight (some false) seen).step =
      ms c t lim last whole start b s handed fo marks lm li frames (weight - 1) (some false) seen := by
  unfold M.step
  simp only [ms, Option.isSome_none, Bool.false_eq_true, if_false]
  unfold M.resume
  simp only [Bool.false_eq_true, if_false, hlt]
  rfl
end
/-- from here on no start serves: the anchor holds at nought alone -/
theorem fail_scan {c t : Array Nat} {lim last : Nat} {whole : Bool} {b : Nat} (h2 : c.getD 2 0 = 0) (ha : c.getD b 0 = 6) (ha' : c.getD (b + 1) 0 = 0) (hb : b < c.size) :
    ∀ (k s start pc pos handed : Nat) (outm fo : Bool) marks lm li weight seen, last - s = k → weight ≤ 100 →
      (M.runFor (2 * k + 2) (ms c t lim last whole start pc pos handed outm marks lm li [ns b s fo] weight (some false) seen)).outcome = some .failed := by
  intro k
  induction k with
  | zero =>
    intro s start pc pos handed outm fo marks lm li weight seen hk hw
    rw [runFor_succ rfl, res_last (by omega), runFor_succ rfl, res_fail]
    rfl
  | succ k ih =>
    intro s start pc pos handed outm fo marks lm li weight seen hk hw
    rw [show 2 * (k + 1) + 2 = (2 * k + 2) + 1 + 1 by omega, runFor_succ rfl, res_next h2 (by omega) hw, runFor_succ rfl, step_atn ha ha' hb (by omega)]
    exact ih (s + 1) _ _ _ _ _ _ _ _ _ _ _ (by omega) (by omega)
def Yes (c : Array Nat) (i ch : Nat) : Prop := ∀ seen, ∃ s', Sre.accepts c i ch seen = .ok (true, s')
def No (c : Array Nat) (i ch : Nat) : Prop := ∀ seen, ∃ s', Sre.accepts c i ch seen = .ok (false, s')
theorem run_spec {c t : Array Nat} {i : Nat} : ∀ (k n p found : Nat) (seen : Sre.Seen), k ≤ n → (∀ j, j < k → Yes c i (t.getD (p + j) 0)) → (k = n ∨ No c i (t.getD (p + k) 0)) → ∃ s', Sre.run c t i n p found seen = .ok (found + k, s') := by
  intro k
  induction k with
  | zero =>
    intro n p found seen hn hy hno
    cases n with
    | zero => exact ⟨seen, rfl⟩
    | succ n =>
      obtain ⟨s', e⟩ := (hno.resolve_left (by omega)) seen
      refine ⟨s', ?_⟩
      unfold Sre.run
      rw [Nat.add_zero] at e
      rw [e]; rfl
  | succ k ih =>
    intro n p found seen hn hy hno
    obtain ⟨n, rfl⟩ : ∃ n', n = n' + 1 := ⟨n - 1, by omega⟩
    obtain ⟨s', e⟩ := hy 0 (by omega) seen
    obtain ⟨s'', e'⟩ := ih n (p + 1) (found + 1) s' (by omega) (fun j hj => by have := hy (j + 1) (by omega); rwa [show p + (j + 1) = p + 1 + j by omega] at this) (hno.imp (by omega) fun h => by rwa [show p + (k + 1) = p + 1 + k by omega] at h)
    refine ⟨s'', ?_⟩
    unfold Sre.run
    rw [Nat.add_zero] at e
    rw [e]
    show (if true = true then Sre.run c t i n (p + 1) (found + 1) s' else pure (found, s')) = _
    rw [if_pos rfl, e']
    congr 2; omega
end Mine

namespace Mine
open PySem.Sre (M)
/-- the signs that a key may hold -/
def tokCh : List Nat := [97, 66, 99, 100, 69, 102, 103, 104, 105, 92, 34, 40, 39]
set_option maxRecDepth 100000
theorem tok_yes : ∀ ch ∈ tokCh, Yes cTok 23 ch := by
  intro ch h seen
  simp only [tokCh, List.mem_cons, List.not_mem_nil, or_false] at h
  rcases h with rfl | rfl | rfl | rfl | rfl | rfl | rfl | rfl | rfl | rfl | rfl | rfl | rfl <;> exact ⟨_, rfl⟩
theorem tok_no : ∀ ch ∈ [59, 61], No cTok 23 ch := by
  intro ch h seen
  simp only [List.mem_cons, List.not_mem_nil, or_false] at h
  rcases h with rfl | rfl <;> exact ⟨_, rfl⟩
theorem tok_nosp : ∀ ch ∈ 59 :: 61 :: tokCh, No cTok 11 ch := by
  intro ch h seen
  simp only [tokCh, List.mem_cons, List.not_mem_nil, or_false] at h
  rcases h with rfl | rfl | rfl | rfl | rfl | rfl | rfl | rfl | rfl | rfl | rfl | rfl | rfl | rfl | rfl <;> exact ⟨_, rfl⟩
/-- HEADER_TOKEN_RE finds the key that a text opens with -/
theorem tok_search {t : Array Nat} {k : Nat} (hk : 0 < k) (hkt : k ≤ t.size) (hsz : t.size ≤ 1000) (hy : ∀ j, j < k → t.getD j 0 ∈ tokCh) (hend : k = t.size ∨ t.getD k 0 ∈ [59, 61]) :
    ∃ n m', n < 2 ^ 60 ∧ M.runFor n (Sre.forSearch cTok t 1 0 t.size false) = m' ∧ m'.outcome = some .matched ∧ m'.start = 0 ∧ m'.handed = k ∧ m'.marks = #[some 0, some k] ∧ m'.lastmark = 1 ∧ m'.lastindex = 1 := by
  rw [forSearch_eq (least := 1) rfl rfl rfl rfl (Nat.zero_le _) (by omega)]
  have r0 : ∀ seen, ∃ s', Sre.run cTok t (7 + 4) (t.size - 0) 0 0 seen = .ok (0, s') := fun seen => by
    have := run_spec (c := cTok) (t := t) (i := 11) 0 (t.size - 0) 0 0 seen (Nat.zero_le _) (fun j hj => absurd hj (Nat.not_lt_zero _)) (.inr (tok_nosp _ (.tail _ (.tail _ (hy 0 hk)))))
    exact this
  have r1 : ∀ seen, ∃ s', Sre.run cTok t (19 + 4) (t.size - 0) 0 0 seen = .ok (k, s') := fun seen => by
    have := run_spec (c := cTok) (t := t) (i := 23) k (t.size - 0) 0 0 seen (by omega) (fun j hj => tok_yes _ (by rw [Nat.zero_add]; exact hy j hj)) (hend.imp (by omega) fun h => tok_no _ (by rw [Nat.zero_add]; exact h))
    rwa [Nat.zero_add] at this
  refine ⟨10, _, by decide, rfl, ?_⟩
  rw [runFor_succ rfl, step_at0 rfl rfl (by decide)]
  rw [runFor_succ rfl, step_rep (sk := 9) (lo := 0) (n := 0) rfl rfl rfl rfl (by decide) (Nat.zero_le _) (by omega) (Nat.zero_le _) (r0 _).choose_spec (Nat.le_refl _) (by decide)]
  rw [runFor_succ rfl, step_mark (i := 0) rfl rfl (by decide) (by decide)]
  rw [runFor_succ rfl, step_rep (sk := 19) (lo := 1) (n := k) rfl rfl rfl rfl (by decide) (Nat.zero_le _) (by omega) (by omega) (r1 _).choose_spec hk (by decide)]
  rw [runFor_succ rfl, step_mark (i := 1) rfl rfl (by decide) (by decide)]
  rw [runFor_succ rfl, step_succ rfl (by decide) (.inl rfl)]
  rw [runFor_succ rfl, res_true (.inl rfl), runFor_succ rfl, res_true (.inl rfl), runFor_succ rfl, res_true (.inr rfl), runFor_succ rfl, res_end]
  refine ⟨rfl, rfl, ?_, ?_, rfl, rfl⟩
  · show 0 + 0 + k = k; omega
  · show (((Array.replicate (2 * 1) none).setIfInBounds 0 (some (0 + 0))).setIfInBounds 1 (some (0 + 0 + k))) = _
    rw [show 0 + 0 + k = k by omega]; rfl
/-- a text that opens with a semicolon has no token at its front -/
theorem tok_fail {t : Array Nat} (h0 : 0 < t.size) (hsz : t.size ≤ 1000) (hc : t.getD 0 0 = 59) :
    ∃ n, n < 2 ^ 60 ∧ (M.runFor n (Sre.forSearch cTok t 1 0 t.size false)).outcome = some .failed := by
  rw [forSearch_eq (least := 1) rfl rfl rfl rfl (Nat.zero_le _) (by omega)]
  have r0 : ∀ seen, ∃ s', Sre.run cTok t (7 + 4) (t.size - 0) 0 0 seen = .ok (0, s') := fun seen => by
    have := run_spec (c := cTok) (t := t) (i := 11) 0 (t.size - 0) 0 0 seen (Nat.zero_le _) (fun j hj => absurd hj (Nat.not_lt_zero _)) (.inr (tok_nosp _ (by rw [hc]; exact .head _)))
    exact this
  have r1 : ∀ seen, ∃ s', Sre.run cTok t (19 + 4) (t.size - 0) 0 0 seen = .ok (0, s') := fun seen => by
    have := run_spec (c := cTok) (t := t) (i := 23) 0 (t.size - 0) 0 0 seen (Nat.zero_le _) (fun j hj => absurd hj (Nat.not_lt_zero _)) (.inr (tok_no _ (by rw [hc]; exact .head _)))
    exact this
  refine ⟨2 * t.size + 2 + 1 + 1 + 1 + 1 + 1, by omega, ?_⟩
  rw [runFor_succ rfl, step_at0 rfl rfl (by decide)]
  rw [runFor_succ rfl, step_rep (sk := 9) (lo := 0) (n := 0) rfl rfl rfl rfl (by decide) (Nat.zero_le _) (by omega) (Nat.zero_le _) (r0 _).choose_spec (Nat.le_refl _) (by decide)]
  rw [runFor_succ rfl, step_mark (i := 0) rfl rfl (by decide) (by decide)]
  have e := fun seen => (step_rep_no (c := cTok) (t := t) (lim := t.size) (last := if 1 > 1 then max 0 (t.size - (1 - 1)) else t.size) (whole := false) (start := 0) (pc := 7 + 1 + 9 + 2) (pos := 0 + 0) (handed := 0 + 0) (outm := true) (marks := (Array.replicate (2 * 1) none).setIfInBounds 0 (some (0 + 0))) (lm := max (-1) (0 : Nat)) (li := (if 0 % 2 == 1 then ((0 / 2 + 1 : Nat) : Int) else -1)) (frames := [{ wait := .giveBack, pc := 7, pos := 0 + 0, outermost := true, count := (0 : Nat), kept := { lastmark := -1, lastindex := -1 } }, ns 5 0 true]) (weight := 1 + 1) (seen := seen) (sk := 19) (lo := 1) (n := 0) rfl rfl rfl rfl (by decide) (Nat.zero_le _) (by omega) (r1 _).choose_spec (by decide))
  rw [runFor_succ rfl, (e _).choose_spec]
  rw [runFor_succ rfl, res_give0 rfl]
  exact fail_scan rfl rfl rfl (by decide) _ _ _ _ _ _ _ _ _ _ _ _ _ rfl (by decide)
end Mine

namespace Mine
open PySem.Sre (M)
set_option maxRecDepth 100000
theorem quo_nosp : ∀ ch ∈ [59, 61], No cQuo 11 ch := by
  intro ch h seen
  simp only [List.mem_cons, List.not_mem_nil, or_false] at h
  rcases h with rfl | rfl <;> exact ⟨_, rfl⟩
theorem quo_nosp2 : ∀ ch ∈ [55, 126], No cQuo 23 ch := by
  intro ch h seen
  simp only [List.mem_cons, List.not_mem_nil, or_false] at h
  rcases h with rfl | rfl <;> exact ⟨_, rfl⟩
theorem val_nosp : ∀ ch ∈ [59, 61], No cVal 11 ch := by
  intro ch h seen
  simp only [List.mem_cons, List.not_mem_nil, or_false] at h
  rcases h with rfl | rfl <;> exact ⟨_, rfl⟩
theorem val_nosp2 : ∀ ch ∈ [55, 126, 39], No cVal 23 ch := by
  intro ch h seen
  simp only [List.mem_cons, List.not_mem_nil, or_false] at h
  rcases h with rfl | rfl | rfl <;> exact ⟨_, rfl⟩
theorem val_yes : ∀ ch ∈ [55, 126, 39], Yes cVal 35 ch := by
  intro ch h seen
  simp only [List.mem_cons, List.not_mem_nil, or_false] at h
  rcases h with rfl | rfl | rfl <;> exact ⟨_, rfl⟩
theorem val_no : No cVal 35 59 := fun seen => ⟨_, rfl⟩
theorem twin_yes : ∀ ch ∈ [59, 32], Yes cTwin 11 ch := by
  intro ch h seen
  simp only [List.mem_cons, List.not_mem_nil, or_false] at h
  rcases h with rfl | rfl <;> exact ⟨_, rfl⟩
theorem twin_no : ∀ ch ∈ tokCh, No cTwin 11 ch := by
  intro ch h seen
  simp only [tokCh, List.mem_cons, List.not_mem_nil, or_false] at h
  rcases h with rfl | rfl | rfl | rfl | rfl | rfl | rfl | rfl | rfl | rfl | rfl | rfl | rfl <;> exact ⟨_, rfl⟩
theorem run0 {c t : Array Nat} {i n p : Nat} (h : No c i (t.getD p 0)) (seen : Sre.Seen) : ∃ s', Sre.run c t i n p 0 seen = .ok (0, s') := by
  have := run_spec (c := c) (t := t) (i := i) 0 n p 0 seen (Nat.zero_le _) (fun j hj => absurd hj (Nat.not_lt_zero _)) (.inr (by rw [Nat.add_zero]; exact h))
  exact this
theorem search_short {c t : Array Nat} {g pos lim : Nat} (h0 : c.getD 0 0 = 14) (hl : lim - pos < c.getD 3 0) : (M.runFor 1 (Sre.forSearch c t g pos lim false)).outcome = some .failed := by
  have e0 : Sre.forSearch c t g pos lim false = (let m : M := { code := c, text := t, lim := lim, start := pos, pc := (Sre.header c).2, pos := pos, handed := pos, marks := Array.replicate (2 * g) none, mustAdvance := false, seen := if (Sre.header c).2 == 0 then {} else ({} : Sre.Seen).add 14 }
      let least := (Sre.header c).1
      let hinted := (Sre.header c).2 != 0 && c.getD 2 0 &&& 5 != 0
      if pos > lim || lim - pos < least then m.say false
      else { m with lastStart := if least > 1 && !hinted then max pos (lim - (least - 1)) else lim }.attemptFrom pos true) := rfl
  rw [e0]
  have e1 : (Sre.header c).1 = c.getD 3 0 := by unfold Sre.header; rw [h0, op_info]
  have e3 : (pos > lim ∨ lim - pos < c.getD 3 0) := .inr hl
  simp only [e1, Bool.or_eq_true, decide_eq_true_eq, e3, if_true]
  rfl
/-- HEADER_QUOTED_VALUE_RE finds nothing -/
theorem quo_fail {t : Array Nat} (hsz : t.size ≤ 1000) (hc : t.getD 0 0 = 59 ∨ (t.getD 0 0 = 61 ∧ t.getD 1 0 ∈ [55, 126])) :
    ∃ n, n < 2 ^ 60 ∧ (M.runFor n (Sre.forSearch cQuo t 1 0 t.size false)).outcome = some .failed := by
  by_cases hs : t.size - 0 < 3
  · exact ⟨1, by decide, search_short rfl hs⟩
  rw [forSearch_eq (least := 3) rfl rfl rfl rfl (Nat.zero_le _) (by omega)]
  have r0 : ∀ seen, ∃ s', Sre.run cQuo t (7 + 4) (t.size - 0) 0 0 seen = .ok (0, s') := run0 (quo_nosp _ (by rcases hc with h | h; rw [h]; exact .head _; rw [h.1]; exact .tail _ (.head _)))
  rcases hc with hc | ⟨hc, hc1⟩
  · refine ⟨2 * (if 3 > 1 then max 0 (t.size - (3 - 1)) else t.size) + 2 + 1 + 1 + 1 + 1, by simp; omega, ?_⟩
    rw [runFor_succ rfl, step_at0 rfl rfl (by decide)]
    rw [runFor_succ rfl, step_rep (sk := 9) (lo := 0) (n := 0) rfl rfl rfl rfl (by decide) (Nat.zero_le _) (by omega) (Nat.zero_le _) (r0 _).choose_spec (Nat.le_refl _) (by decide)]
    rw [runFor_succ rfl, step_lit_no (ch := 61) rfl rfl (by decide) (.inr (by show t.getD 0 0 ≠ 61; rw [hc]; decide))]
    rw [runFor_succ rfl, res_give0 rfl]
    exact fail_scan rfl rfl rfl (by decide) _ _ _ _ _ _ _ _ _ _ _ _ _ rfl (by decide)
  · have r1 : ∀ seen, ∃ s', Sre.run cQuo t (19 + 4) (t.size - 1) 1 0 seen = .ok (0, s') := run0 (quo_nosp2 _ hc1)
    refine ⟨2 * (if 3 > 1 then max 0 (t.size - (3 - 1)) else t.size) + 2 + 1 + 1 + 1 + 1 + 1 + 1 + 1, by simp; omega, ?_⟩
    rw [runFor_succ rfl, step_at0 rfl rfl (by decide)]
    rw [runFor_succ rfl, step_rep (sk := 9) (lo := 0) (n := 0) rfl rfl rfl rfl (by decide) (Nat.zero_le _) (by omega) (Nat.zero_le _) (r0 _).choose_spec (Nat.le_refl _) (by decide)]
    rw [runFor_succ rfl, step_lit (ch := 61) rfl rfl (by decide) (by omega) hc]
    rw [runFor_succ rfl, step_rep (sk := 9) (lo := 0) (n := 0) rfl rfl rfl rfl (by decide) (by omega) (by omega) (Nat.zero_le _) (r1 _).choose_spec (Nat.le_refl _) (by decide)]
    rw [runFor_succ rfl, step_lit_no (ch := 34) rfl rfl (by decide) (.inr (by
      show t.getD 1 0 ≠ 34
      intro h
      rw [h] at hc1
      exact absurd hc1 (by decide)))]
    rw [runFor_succ rfl, res_give0 rfl]
    rw [runFor_succ rfl, res_give0 rfl]
    exact fail_scan rfl rfl rfl (by decide) _ _ _ _ _ _ _ _ _ _ _ _ _ rfl (by decide)
theorem val_fail {t : Array Nat} (h0 : 0 < t.size) (hsz : t.size ≤ 1000) (hc : t.getD 0 0 = 59) :
    ∃ n, n < 2 ^ 60 ∧ (M.runFor n (Sre.forSearch cVal t 1 0 t.size false)).outcome = some .failed := by
  rw [forSearch_eq (least := 1) rfl rfl rfl rfl (Nat.zero_le _) (by omega)]
  have r0 : ∀ seen, ∃ s', Sre.run cVal t (7 + 4) (t.size - 0) 0 0 seen = .ok (0, s') := run0 (val_nosp _ (by rw [hc]; exact .head _))
  refine ⟨2 * t.size + 2 + 1 + 1 + 1 + 1, by omega, ?_⟩
  rw [runFor_succ rfl, step_at0 rfl rfl (by decide)]
  rw [runFor_succ rfl, step_rep (sk := 9) (lo := 0) (n := 0) rfl rfl rfl rfl (by decide) (Nat.zero_le _) (by omega) (Nat.zero_le _) (r0 _).choose_spec (Nat.le_refl _) (by decide)]
  rw [runFor_succ rfl, step_lit_no (ch := 61) rfl rfl (by decide) (.inr (by show t.getD 0 0 ≠ 61; rw [hc]; decide))]
  rw [runFor_succ rfl, res_give0 rfl]
  exact fail_scan rfl rfl rfl (by decide) _ _ _ _ _ _ _ _ _ _ _ _ _ rfl (by decide)
/-- HEADER_VALUE_RE finds the value -/
theorem val_search {t : Array Nat} {k : Nat} (hk : 0 < k) (hkt : 1 + k < t.size) (hsz : t.size ≤ 1000) (hc : t.getD 0 0 = 61) (hy : ∀ j, j < k → t.getD (1 + j) 0 ∈ [55, 126, 39]) (hend : t.getD (1 + k) 0 = 59) :
    ∃ n m', n < 2 ^ 60 ∧ M.runFor n (Sre.forSearch cVal t 1 0 t.size false) = m' ∧ m'.outcome = some .matched ∧ m'.start = 0 ∧ m'.handed = 1 + k ∧ m'.marks = #[some 1, some (1 + k)] ∧ m'.lastmark = 1 ∧ m'.lastindex = 1 := by
  rw [forSearch_eq (least := 1) rfl rfl rfl rfl (Nat.zero_le _) (by omega)]
  have r0 : ∀ seen, ∃ s', Sre.run cVal t (7 + 4) (t.size - 0) 0 0 seen = .ok (0, s') := run0 (val_nosp _ (by rw [hc]; exact .tail _ (.head _)))
  have r1 : ∀ seen, ∃ s', Sre.run cVal t (19 + 4) (t.size - 1) 1 0 seen = .ok (0, s') := run0 (val_nosp2 _ (hy 0 hk))
  have r2 : ∀ seen, ∃ s', Sre.run cVal t (31 + 4) (t.size - 1) 1 0 seen = .ok (k, s') := fun seen => by
    have := run_spec (c := cVal) (t := t) (i := 35) k (t.size - 1) 1 0 seen (by omega) (fun j hj => val_yes _ (hy j hj)) (.inr (by rw [hend]; exact val_no))
    rwa [Nat.zero_add] at this
  refine ⟨13, _, by decide, rfl, ?_⟩
  rw [runFor_succ rfl, step_at0 rfl rfl (by decide)]
  rw [runFor_succ rfl, step_rep (sk := 9) (lo := 0) (n := 0) rfl rfl rfl rfl (by decide) (Nat.zero_le _) (by omega) (Nat.zero_le _) (r0 _).choose_spec (Nat.le_refl _) (by decide)]
  rw [runFor_succ rfl, step_lit (ch := 61) rfl rfl (by decide) (by omega) hc]
  rw [runFor_succ rfl, step_rep (sk := 9) (lo := 0) (n := 0) rfl rfl rfl rfl (by decide) (by omega) (by omega) (Nat.zero_le _) (r1 _).choose_spec (Nat.le_refl _) (by decide)]
  rw [runFor_succ rfl, step_mark (i := 0) rfl rfl (by decide) (by decide)]
  rw [runFor_succ rfl, step_rep (sk := 14) (lo := 0) (n := k) rfl rfl rfl rfl (by decide) (by omega) (by omega) (Nat.zero_le _) (r2 _).choose_spec (Nat.zero_le _) (by decide)]
  rw [runFor_succ rfl, step_mark (i := 1) rfl rfl (by decide) (by decide)]
  rw [runFor_succ rfl, step_succ rfl (by decide) (.inl rfl)]
  rw [runFor_succ rfl, res_true (.inl rfl), runFor_succ rfl, res_true (.inl rfl), runFor_succ rfl, res_true (.inl rfl), runFor_succ rfl, res_true (.inr rfl), runFor_succ rfl, res_end]
  exact ⟨rfl, rfl, rfl, rfl, rfl, rfl⟩
/-- the junk at the front -/
theorem twin_search {t : Array Nat} {k : Nat} (hkt : k ≤ t.size) (hsz : t.size ≤ 1000) (hy : ∀ j, j < k → t.getD j 0 ∈ [59, 32]) (hend : k = t.size ∨ t.getD k 0 ∈ tokCh) :
    ∃ n m', n < 2 ^ 60 ∧ M.runFor n (Sre.forSearch cTwin t 0 0 t.size false) = m' ∧ m'.outcome = some .matched ∧ m'.start = 0 ∧ m'.handed = k := by
  rw [forSearch_eq (least := 0) rfl rfl rfl rfl (Nat.zero_le _) (by omega)]
  have r0 : ∀ seen, ∃ s', Sre.run cTwin t (7 + 4) (t.size - 0) 0 0 seen = .ok (k, s') := fun seen => by
    have := run_spec (c := cTwin) (t := t) (i := 11) k (t.size - 0) 0 0 seen (by omega) (fun j hj => twin_yes _ (by rw [Nat.zero_add]; exact hy j hj)) (hend.imp (by omega) fun h => twin_no _ (by rw [Nat.zero_add]; exact h))
    rwa [Nat.zero_add] at this
  refine ⟨6, _, by decide, rfl, ?_⟩
  rw [runFor_succ rfl, step_at0 rfl rfl (by decide)]
  rw [runFor_succ rfl, step_rep (sk := 13) (lo := 0) (n := k) rfl rfl rfl rfl (by decide) (Nat.zero_le _) (by omega) (Nat.zero_le _) (r0 _).choose_spec (Nat.zero_le _) (by decide)]
  rw [runFor_succ rfl, step_succ rfl (by decide) (.inl rfl)]
  rw [runFor_succ rfl, res_true (.inl rfl), runFor_succ rfl, res_true (.inr rfl), runFor_succ rfl, res_end]
  refine ⟨rfl, rfl, ?_⟩
  show 0 + k = k; omega
theorem twin_next {t : Array Nat} {k : Nat} (hk : 0 < k) (hkt : k ≤ t.size) (hsz : t.size ≤ 1000) :
    ∃ n, n < 2 ^ 60 ∧ (M.runFor n (Sre.forSearch cTwin t 0 k t.size false)).outcome = some .failed := by
  rw [forSearch_eq (least := 0) rfl rfl rfl rfl hkt (by omega)]
  refine ⟨2 * (t.size - k) + 2 + 1, by omega, ?_⟩
  rw [runFor_succ rfl, step_atn rfl rfl (by decide) (by omega)]
  exact fail_scan rfl rfl rfl (by decide) _ _ _ _ _ _ _ _ _ _ _ _ _ rfl (by decide)
theorem join_full : ∀ t ∈ [#[55], #[126, 39]], (M.runFor 10 (Sre.forMatch cJoin t 0 0 t.size true false)).outcome.isSome = true ∧ (match (M.runFor 10 (Sre.forMatch cJoin t 0 0 t.size true false)).outcome with | some .matched => true | _ => false) = true := by
  intro t h
  simp only [List.mem_cons, List.not_mem_nil, or_false] at h
  rcases h with rfl | rfl <;> exact ⟨rfl, rfl⟩
end Mine

namespace Mine
set_option maxRecDepth 100000
theorem pa_pat : PlainAttrs "re.Pattern" := ⟨⟨"object.__getattribute__", by rw [typeLookup_type, builtinLookup_eq_fast]; kernel_rfl, by decide +kernel⟩, by rw [typeLookup_type, builtinLookup_eq_fast]; kernel_rfl⟩
theorem pa_mat : PlainAttrs "re.Match" := ⟨⟨"object.__getattribute__", by rw [typeLookup_type, builtinLookup_eq_fast]; kernel_rfl, by decide +kernel⟩, by rw [typeLookup_type, builtinLookup_eq_fast]; kernel_rfl⟩
theorem slot_search : Slot "re.Pattern" "search" "re.Pattern.search" :=
  .of (owner := "re.Pattern") (n := "search") (by rw [typeLookup_type, builtinLookup_eq_fast]; kernel_rfl) (by decide +kernel) (by decide +kernel) (by decide +kernel)
    (by first | exact .inl (by decide +kernel) | exact .inr (by decide +kernel)) (by rw [isSubtype_type]; kernel_rfl)
theorem type_search : typeOf (.builtin "re.Pattern.search") = pure (.type "method_descriptor") := by show builtinType _ = _; rw [builtinType_eq_fast]; kernel_rfl
theorem entry_search : entryFor table "re.Pattern.search" = some Builtin.«re.Pattern.search» := entryFor_of_tree (by kernel_rfl)
theorem args_search (a b : Value) : argsOk "re.Pattern.search" ⟨[a, b], []⟩ := by unfold argsOk; kernel_rfl
theorem slot_full : Slot "re.Pattern" "fullmatch" "re.Pattern.fullmatch" :=
  .of (owner := "re.Pattern") (n := "fullmatch") (by rw [typeLookup_type, builtinLookup_eq_fast]; kernel_rfl) (by decide +kernel) (by decide +kernel) (by decide +kernel)
    (by first | exact .inl (by decide +kernel) | exact .inr (by decide +kernel)) (by rw [isSubtype_type]; kernel_rfl)
theorem type_full : typeOf (.builtin "re.Pattern.fullmatch") = pure (.type "method_descriptor") := by show builtinType _ = _; rw [builtinType_eq_fast]; kernel_rfl
theorem entry_full : entryFor table "re.Pattern.fullmatch" = some Builtin.«re.Pattern.fullmatch» := entryFor_of_tree (by kernel_rfl)
theorem args_full (a b : Value) : argsOk "re.Pattern.fullmatch" ⟨[a, b], []⟩ := by unfold argsOk; kernel_rfl
theorem slot_subn : Slot "re.Pattern" "subn" "re.Pattern.subn" :=
  .of (owner := "re.Pattern") (n := "subn") (by rw [typeLookup_type, builtinLookup_eq_fast]; kernel_rfl) (by decide +kernel) (by decide +kernel) (by decide +kernel)
    (by first | exact .inl (by decide +kernel) | exact .inr (by decide +kernel)) (by rw [isSubtype_type]; kernel_rfl)
theorem type_subn : typeOf (.builtin "re.Pattern.subn") = pure (.type "method_descriptor") := by show builtinType _ = _; rw [builtinType_eq_fast]; kernel_rfl
theorem entry_subn : entryFor table "re.Pattern.subn" = some Builtin.«re.Pattern.subn» := entryFor_of_tree (by kernel_rfl)
theorem args_subn (a b c : Value) : argsOk "re.Pattern.subn" ⟨[a, b, c], []⟩ := by unfold argsOk; kernel_rfl
theorem slot_span : Slot "re.Match" "span" "re.Match.span" :=
  .of (owner := "re.Match") (n := "span") (by rw [typeLookup_type, builtinLookup_eq_fast]; kernel_rfl) (by decide +kernel) (by decide +kernel) (by decide +kernel)
    (by first | exact .inl (by decide +kernel) | exact .inr (by decide +kernel)) (by rw [isSubtype_type]; kernel_rfl)
theorem type_span : typeOf (.builtin "re.Match.span") = pure (.type "method_descriptor") := by show builtinType _ = _; rw [builtinType_eq_fast]; kernel_rfl
theorem entry_span : entryFor table "re.Match.span" = some Builtin.«re.Match.span» := entryFor_of_tree (by kernel_rfl)
theorem args_span (a b : Value) : argsOk "re.Match.span" ⟨[a, b], []⟩ := by unfold argsOk; kernel_rfl
theorem slot_group : Slot "re.Match" "group" "re.Match.group" :=
  .of (owner := "re.Match") (n := "group") (by rw [typeLookup_type, builtinLookup_eq_fast]; kernel_rfl) (by decide +kernel) (by decide +kernel) (by decide +kernel)
    (by first | exact .inl (by decide +kernel) | exact .inr (by decide +kernel)) (by rw [isSubtype_type]; kernel_rfl)
theorem type_group : typeOf (.builtin "re.Match.group") = pure (.type "method_descriptor") := by show builtinType _ = _; rw [builtinType_eq_fast]; kernel_rfl
theorem entry_group : entryFor table "re.Match.group" = some Builtin.«re.Match.group» := entryFor_of_tree (by kernel_rfl)
theorem args_group (a b : Value) : argsOk "re.Match.group" ⟨[a, b], []⟩ := by unfold argsOk; kernel_rfl
theorem match_nobool : typeLookup (.type "re.Match") "__bool__" = pure none := by rw [typeLookup_type, builtinLookup_eq_fast]; kernel_rfl
theorem match_nolen : typeLookup (.type "re.Match") "__len__" = pure none := by rw [typeLookup_type, builtinLookup_eq_fast]; kernel_rfl
theorem lk_string : typeLookup (.type "re.Match") "string" = pure (some (.builtin "re.Match.string")) := by rw [typeLookup_type, builtinLookup_eq_fast]; kernel_rfl
theorem entry_string : entryFor table "re.Match.string" = some Builtin.«re.Match.string» := entryFor_of_tree (by kernel_rfl)
end Mine

namespace Mine
open PySem.Sre (M)
open Builtin.Re
set_option maxRecDepth 100000
/-- the pattern that row i compiles lies at a, with g groups -/
def Pat (h : Heap) (a i g : Nat) : Prop := ∃ o vs ca oc its n, h.get? a = some o ∧ o.cls = .type "re.Pattern" ∧ o.dict = none ∧ o.data = .fields vs ∧ reRawNat (vs.getD 2 .none) = g ∧ vs.getD 5 .none = .ref ca ∧ reRawNat (vs.getD 6 .none) = 0 ∧
  h.get? ca = some oc ∧ oc.data = .seq its n ∧ (its.map reRawOf).map Int.toNat = codeOf (stm i)
theorem Pat.keeps {h h' : Heap} {a i g : Nat} (P : Pat h a i g) (k : ∀ b o, h.get? b = some o → h'.get? b = some o) : Pat h' a i g :=
  let ⟨o, vs, ca, oc, its, n, h1, h2, h3, h4, h5, h6, h7, h8, h9⟩ := P
  ⟨o, vs, ca, oc, its, n, k _ _ h1, h2, h3, h4, h5, h6, h7, k _ _ h8, h9⟩
theorem Pat.typeIs {s : Shared} {a i g : Nat} (P : Pat s.heap a i g) : s.TypeIs (.ref a) "re.Pattern" := let ⟨o, _, _, _, _, _, h1, h2, _⟩ := P; ⟨o, h1, h2⟩
section
variable {w : World} {A : Around} {E : Value → Shared → Prop} {s : Shared} {a i g : Nat} {x : Str} {t : Tok}
theorem pat_method {name : Str} {id : String} {pl : Sem Bool} {Q : Value × List Value → Shared → Prop} (P : Pat s.heap a i g) (slot : Slot "re.Pattern" name id) (hty : typeOf (.builtin id) = pure (.type "method_descriptor")) (h : Q (.builtin id, [.ref a]) s) :
    wpAny (model pw w) A (getMethod (.ref a) name pl) Q E s :=
  getMethod_builtin P.typeIs pa_pat slot hty (fun b e => by cases e; obtain ⟨o, _, _, _, _, _, h1, _, h3, _⟩ := P; exact ⟨o, h1, h3⟩) h
theorem target_any {id f : String} {Q : ReTarget → Shared → Prop} (P : Pat s.heap a i g) (hx : x.cps.size ≤ 1000) (hn : reNamed id f ["string", "pos", "endpos"] 1 [.str x t] [] = pure [some (.str x t), none, none])
    (h : Q ⟨.ref a, .str x t, codeOf (stm i), x.cps, 0, g, 0, x.cps.size⟩ s) : wpAny (model pw w) A (reTarget id f ⟨[.ref a, .str x t], []⟩) Q E s := by
  obtain ⟨o, vs, ca, oc, its, n, h1, h2, h3, h4, h5, h6, h7, h8, h9, h10⟩ := P
  unfold reTarget
  dsimp only
  rw [hn]
  refine wpAny_bind (wpAny_pure ?_)
  dsimp only
  refine wpAny_bind (wpAny_pure (wpAny_bind (wpAny_pure ?_)))
  refine wpAny_bind (wpAny_fieldsOf h1 h4 ?_)
  refine wpAny_bind (m := reTextOf (.str x t)) (wpAny_pure ?_)
  dsimp only
  rw [h7]
  rw [if_neg (by decide), if_neg (by decide)]
  refine wpAny_bind (m := reNoCollectionInside (.str x t) 0) (wpAny_pure ?_)
  refine wpAny_bind ?_
  unfold reRawItems
  rw [h6]
  refine wpAny_bind (wpAny_seqItems h8 h9 (wpAny_pure (wpAny_pure ?_)))
  have e1 : min (Int.toNat (2 ^ 63 - 1)) x.cps.size = x.cps.size := by
    have : Int.toNat (2 ^ 63 - 1) = 9223372036854775807 := by decide
    rw [this]; omega
  have e2 : min (Int.toNat 0) x.cps.size = 0 := by simp
  rw [e1, e2, h5, show (Array.map (fun x => Int.toNat x) (Array.map reRawOf ((some its).getD #[]))) = codeOf (stm i) from h10]
  exact h
abbrev matchObj (x : Str) (t : Tok) (a lim : Nat) (li : Int) (ta : Addr) : Obj := { cls := .type "re.Match", data := .fields #[.str x t, .ref a, rawInt 0, rawInt lim, rawInt li, .ref ta] }
abbrev tupOf (vs : List Value) : Obj := { cls := .type "tuple", data := .seq vs.toArray }
section
variable {h₀ : Heap} {L : Addr} {m : Map} {news : Led}
/-- a match with one group -/
theorem newMatch1 {pat : Addr} {lim b e : Nat} {mm : M} {Q : Value → Shared → Prop} (F : Fr h₀ L s.heap m) (N : News h₀ L s.heap news) (hmk : mm.marks = #[some b, some e]) (hlm : mm.lastmark = 1) (hbe : b ≤ e)
    (h : ∀ h' (ma ta : Addr), Fr h₀ L h' m → News h₀ L h' ((ma, matchObj x t pat lim mm.lastindex ta) :: (ta, tupOf [rawInt mm.start, rawInt mm.handed, rawInt b, rawInt e]) :: news) → ta < ma → (∀ p ∈ news, p.1 < ta) → Q (.ref ma) { s with heap := h' }) :
    wpAny (model pw w) A (reNewMatch (.ref pat) (.str x t) 1 0 lim mm) Q E s := by
  cases mm
  dsimp only at hmk hlm h
  subst hmk hlm
  rename_i start _ _ _ _ _ handed _ li _ _ _ _ _ _ _
  show wpAny _ _ (if (decide ((1 : Int) ≤ 1) && decide (e < b) || false) = true then _ else (newTuple [rawInt start, rawInt handed, rawInt b, rawInt e] >>= fun tv => newFields "re.Match" [.str x t, .ref pat, rawInt (0 : Nat), rawInt lim, rawInt li, tv])) Q E s
  have : ¬ e < b := by omega
  rw [if_neg (by simp [this])]
  refine wpAny_bind (newTuple_N F N (fun h1 F1 N1 => ?_) (by size_fits))
  exact wpAny_newObj_type (h _ h1.objs.size s.heap.objs.size (F1.push _) (N1.push F1 _) (Heap.lt_size (N1.get (.head _))) (fun p hp => Heap.lt_size (N p hp).1)) (by size_fits)
/-- a match without groups -/
theorem newMatch0 {pat : Addr} {lim : Nat} {mm : M} {Q : Value → Shared → Prop} (F : Fr h₀ L s.heap m) (N : News h₀ L s.heap news)
    (h : ∀ h' (ma : Addr) (o : Obj), Fr h₀ L h' m → News h₀ L h' ((ma, o) :: news) → o.cls = .type "re.Match" → Q (.ref ma) { s with heap := h' }) :
    wpAny (model pw w) A (reNewMatch (.ref pat) (.str x t) 0 0 lim mm) Q E s := by
  show wpAny _ _ (newTuple [rawInt mm.start, rawInt mm.handed] >>= fun tv => newFields "re.Match" [.str x t, .ref pat, rawInt (0 : Nat), rawInt lim, rawInt mm.lastindex, tv]) Q E s
  refine wpAny_bind (newTuple_N F N (fun h1 F1 N1 => ?_) (by size_fits))
  exact wpAny_newObj_type (h _ h1.objs.size _ (F1.push _) (fun p hp => (N1.push F1 _) p (by rcases List.mem_cons.mp hp with rfl | hp; exact .head _; exact .tail _ (.tail _ hp))) rfl) (by size_fits)
theorem search_hit {k b e n : Nat} {mm : M} {Q : Value → Shared → Prop} (F : Fr h₀ L s.heap m) (N : News h₀ L s.heap news) (P : Pat h₀ a i 1) (hx : x.cps.size ≤ 1000) (hn : n < 2 ^ 60) (hr : M.runFor n (Sre.forSearch (codeOf (stm i)) x.cps 1 0 x.cps.size false) = mm)
    (ho : mm.outcome = some .matched) (hs : mm.start = 0) (hk : mm.handed = k) (hmk : mm.marks = #[some b, some e]) (hlm : mm.lastmark = 1) (hli : mm.lastindex = 1) (hbe : b ≤ e)
    (h : ∀ h' (ma ta : Addr), Fr h₀ L h' m → News h₀ L h' ((ma, matchObj x t a x.cps.size 1 ta) :: (ta, tupOf [rawInt (0 : Nat), rawInt k, rawInt b, rawInt e]) :: news) → ta < ma → (∀ p ∈ news, p.1 < ta) → Q (.ref ma) { s with heap := h' }) :
    wpAny (model pw w) A (call (.builtin "re.Pattern.search") [.ref a, .str x t]) Q E s := by
  have P' := P.keeps F.keep
  refine wpAny_call_entry slot_search P'.typeIs entry_search ?_ (args_search _ _)
  unfold Builtin.«re.Pattern.search»
  refine wpAny_bind (target_any P' hx rfl ?_)
  unfold reAnswer
  refine wpAny_bind (run_end hn (.inl ⟨by rw [hr]; exact ho, ?_⟩))
  rw [hr]
  refine wpAny_bind (newMatch1 F N hmk hlm hbe fun h' ma ta F' N' hlt hall => wpAny_pure ⟨_, rfl, ?_⟩)
  rw [hs, hk, hli] at N'
  exact h h' ma ta F' N' hlt hall
theorem search_miss {n : Nat} {Q : Value → Shared → Prop} (F : Fr h₀ L s.heap m) (P : Pat h₀ a i 1) (hx : x.cps.size ≤ 1000) (hn : n < 2 ^ 60) (hr : (M.runFor n (Sre.forSearch (codeOf (stm i)) x.cps 1 0 x.cps.size false)).outcome = some .failed)
    (h : Q .none s) : wpAny (model pw w) A (call (.builtin "re.Pattern.search") [.ref a, .str x t]) Q E s := by
  have P' := P.keeps F.keep
  refine wpAny_call_entry slot_search P'.typeIs entry_search ?_ (args_search _ _)
  unfold Builtin.«re.Pattern.search»
  refine wpAny_bind (target_any P' hx rfl ?_)
  unfold reAnswer
  exact wpAny_bind (run_end hn (.inr ⟨hr, wpAny_pure ⟨_, rfl, h⟩⟩))
theorem full_hit {Q : Value → Shared → Prop} (F : Fr h₀ L s.heap m) (N : News h₀ L s.heap news) (P : Pat h₀ a 12 0) (hx : x.cps ∈ [#[55], #[126, 39]])
    (h : ∀ h' (ma : Addr) (o : Obj), Fr h₀ L h' m → News h₀ L h' ((ma, o) :: news) → o.cls = .type "re.Match" → Q (.ref ma) { s with heap := h' }) :
    wpAny (model pw w) A (call (.builtin "re.Pattern.fullmatch") [.ref a, .str x t]) Q E s := by
  have P' := P.keeps F.keep
  refine wpAny_call_entry slot_full P'.typeIs entry_full ?_ (args_full _ _)
  unfold Builtin.«re.Pattern.fullmatch»
  have hsz : x.cps.size ≤ 1000 := by
    simp only [List.mem_cons, List.not_mem_nil, or_false] at hx
    rcases hx with e | e <;> rw [e] <;> decide
  refine wpAny_bind (target_any P' hsz rfl ?_)
  unfold reAnswer
  have ho : (M.runFor 10 (Sre.forMatch cJoin x.cps 0 0 x.cps.size true false)).outcome = some .matched := by
    have := (join_full _ hx).2
    split at this
    · assumption
    · cases this
  refine wpAny_bind (run_end (n := 10) (by decide) (.inl ⟨ho, ?_⟩))
  exact wpAny_bind (newMatch0 F N fun h' ma o F' N' hc => wpAny_pure ⟨_, rfl, h h' ma o F' N' hc⟩)
/-- a match is true -/
theorem match_truthy {ma : Addr} {o : Obj} {Q : Bool → Shared → Prop} (ho : s.heap.get? ma = some o) (hc : o.cls = .type "re.Match") (h : Q true s) : wpAny (model pw w) A (truthy (.ref ma)) Q E s := by
  have hT : s.TypeIs (.ref ma) "re.Match" := ⟨o, ho, hc⟩
  unfold truthy
  dsimp only
  refine wpAny_bind (wpAny_callSpecial?_none hT match_nobool ?_)
  refine wpAny_bind (wpAny_specialOf hT match_nolen ?_)
  exact wpAny_pure h
end
end
end Mine

namespace Mine
open Builtin.Re
set_option maxRecDepth 100000
theorem slot_mga : Slot "re.Match" "__getattribute__" "object.__getattribute__" :=
  .of (owner := "object") (n := "__getattribute__") (by rw [typeLookup_type, builtinLookup_eq_fast]; kernel_rfl) (by decide +kernel) (by decide +kernel) (by decide +kernel)
    (by first | exact .inl (by decide +kernel) | exact .inr (by decide +kernel)) (by rw [isSubtype_type]; kernel_rfl)
theorem entry_oga : entryFor table "object.__getattribute__" = some Builtin.«object.__getattribute__» := entryFor_of_tree (by kernel_rfl)
theorem args_oga (a b : Value) : argsOk "object.__getattribute__" ⟨[a, b], []⟩ := by unfold argsOk; kernel_rfl
theorem type_string : typeOf (.builtin "re.Match.string") = pure (.type "member_descriptor") := by show builtinType _ = _; rw [builtinType_eq_fast]; kernel_rfl
theorem sub_string_owner : isSubtype (.type "re.Match") (.type (".".intercalate ("re.Match.string".cutAt '.').dropLast)) = pure true := by
  rw [show ".".intercalate ("re.Match.string".cutAt '.').dropLast = "re.Match" by decide +kernel, isSubtype_type]; kernel_rfl
section
variable {w : World} {A : Around} {E : Value → Shared → Prop} {h : Heap} {g : Array GenState} {d : Drawn} {t : Nat} {os : OsState} {ma pat lim : Nat} {x : Str} {tx : Tok} {li : Int} {ta : Addr}
theorem string_get {R : Result → Shared → Prop} (hx : h.get? ma = some (matchObj x tx pat lim li ta)) (hq : R (.ok (.ret (.str x tx))) ⟨h, g, d, t, os⟩) :
    codeAny (model pw w) A (.call (.builtin "member_descriptor.__get__") ⟨[.builtin "re.Match.string", .ref ma, .type "re.Match"], []⟩) R ⟨h, g, d, t, os⟩ := by
  have hT : (⟨h, g, d, t, os⟩ : Shared).TypeIs (.ref ma) "re.Match" := ⟨_, hx, rfl⟩
  have hT5 : (⟨h, g, d, t, os⟩ : Shared).TypeIs (.builtin "re.Match.string") "member_descriptor" := type_string
  have f8 := sub_string_owner
  refine codeAny_call_builtin KF.slot_mem.plain KF.entry_mem (KF.slot_mem.check _ _ _ _ _ _ _ _ hT5 (KF.args_mem _ _ _) ?_)
  repeat (any_goals (first | assumption | wp_step))
  refine ⟨Code.quiet_builtin _ (by decide +kernel), codeAny_builtin entry_string ?_⟩
  unfold Builtin.«re.Match.string»
  exact wpAny_bind (wpAny_field hx rfl (x := .str x tx) rfl (wpAny_pure hq))
theorem string_entry {tk : Tok} {Q : Fin → Shared → Prop} (hx : h.get? ma = some (matchObj x tx pat lim li ta)) (hq : Q (.done (.ret (.str x tx))) ⟨h, g, d, t, os⟩) :
    wpAny (model pw w) A (Builtin.«object.__getattribute__» ⟨[.ref ma, .str "string" tk], []⟩) Q E ⟨h, g, d, t, os⟩ := by
  have hT : (⟨h, g, d, t, os⟩ : Shared).TypeIs (.ref ma) "re.Match" := ⟨_, hx, rfl⟩
  have hT5 : (⟨h, g, d, t, os⟩ : Shared).TypeIs (.builtin "re.Match.string") "member_descriptor" := type_string
  have f4 := lk_string
  have f5 := type_string
  have f6 := KF.slot_mem.lookup
  have f7 := KF.slot_mset.lookup
  repeat (any_goals (first | assumption | wp_step))
  refine string_get hx ?_
  repeat (any_goals (first | assumption | wp_step))
theorem string_by {tk : Tok} {fill expr : Bool} {Q : Value → Shared → Prop} (hx : h.get? ma = some (matchObj x tx pat lim li ta)) (hq : Q (.str x tx) ⟨h, g, d, t, os⟩) : wpAny (model pw w) A (getAttrBy (.ref ma) (.str "string" tk) fill expr) Q E ⟨h, g, d, t, os⟩ := by
  have hT : (⟨h, g, d, t, os⟩ : Shared).TypeIs (.ref ma) "re.Match" := ⟨_, hx, rfl⟩
  have f2 := slot_mga.lookup
  have f3 := slot_mga.bind (.ref ma)
  repeat (any_goals (first | assumption | wp_step))
  rw [if_neg (by cases expr <;> decide)]
  repeat (any_goals (first | assumption | wp_step))
  refine codeAny_call_builtin slot_mga.plain entry_oga (slot_mga.check _ _ _ _ _ _ _ _ hT (args_oga _ _) (string_entry hx ?_))
  repeat (any_goals (first | assumption | wp_step))
end
section
variable {w : World} {A : Around} {E : Value → Shared → Prop} {s : Shared} {ma pat lim : Nat} {x : Str} {tx : Tok} {li : Int} {ta : Addr} {h₀ : Heap} {L : Addr} {m : Map} {news : Led} {k b e : Nat}
theorem string_attr {expr : Bool} {Q : Value → Shared → Prop} (hx : s.heap.get? ma = some (matchObj x tx pat lim li ta)) (hq : Q (.str x tx) { s with toks := s.toks + 1 }) : wpAny (model pw w) A (getAttr (.ref ma) "string" expr) Q E s := by
  unfold getAttr
  exact wpAny_bind (wpAny_mkText (string_by hx hq))
end
end Mine

namespace Mine
open Builtin.Re
set_option maxRecDepth 100000
section
variable {w : World} {A : Around} {E : Value → Shared → Prop} {s : Shared} {ma pat lim : Nat} {x : Str} {tx : Tok} {li : Int} {ta : Addr} {h₀ : Heap} {L : Addr} {m : Map} {news : Led} {k b e : Nat}
theorem mat_typeIs (hx : s.heap.get? ma = some (matchObj x tx pat lim li ta)) : s.TypeIs (.ref ma) "re.Match" := ⟨_, hx, rfl⟩
theorem mat_method {name : Str} {id : String} {pl : Sem Bool} {Q : Value × List Value → Shared → Prop} (hx : s.heap.get? ma = some (matchObj x tx pat lim li ta)) (slot : Slot "re.Match" name id) (hty : typeOf (.builtin id) = pure (.type "method_descriptor")) (h : Q (.builtin id, [.ref ma]) s) :
    wpAny (model pw w) A (getMethod (.ref ma) name pl) Q E s :=
  getMethod_builtin (mat_typeIs hx) pa_mat slot hty (fun b e => by cases e; exact ⟨_, hx, rfl⟩) h
abbrev spans (k b e : Nat) : Obj := tupOf [rawInt (0 : Nat), rawInt k, rawInt b, rawInt e]
theorem found_any {Q : ReFound → Shared → Prop} (hx : s.heap.get? ma = some (matchObj x tx pat lim li ta)) (ht : s.heap.get? ta = some (spans k b e))
    (h : Q ⟨#[.str x tx, .ref pat, rawInt 0, rawInt lim, rawInt li, .ref ta], #[(0 : Nat), k, b, e]⟩ s) : wpAny (model pw w) A (reFound (.ref ma)) Q E s := by
  unfold reFound
  refine wpAny_bind (wpAny_fieldsOf hx rfl ?_)
  refine wpAny_bind ?_
  unfold reRawItems
  have e1 : Array.map reRawOf ((some #[rawInt ((0 : Nat) : Int), rawInt k, rawInt b, rawInt e]).getD #[]) = #[((0 : Nat) : Int), k, b, e] := by simp [reRawOf, rawInt]
  exact wpAny_bind (wpAny_seqItems ht rfl (wpAny_pure (wpAny_pure (e1 ▸ h))))
theorem span_call {u : Tok} {Q : Value → Shared → Prop} (F : Fr h₀ L s.heap m) (N : News h₀ L s.heap news) (hx : s.heap.get? ma = some (matchObj x tx pat lim li ta)) (ht : s.heap.get? ta = some (spans k b e))
    (h : ∀ h' (T : Addr) tk t1 t2, Fr h₀ L h' m → News h₀ L h' ((T, tupOf [.int (0 : Nat) t1, .int k t2]) :: news) → Q (.ref T) { s with heap := h', toks := tk }) :
    wpAny (model pw w) A (call (.builtin "re.Match.span") [.ref ma, .int 0 u]) Q E s := by
  refine wpAny_call_entry slot_span (mat_typeIs hx) entry_span ?_ (args_span _ _)
  unfold Builtin.«re.Match.span»
  refine wpAny_bind ?_
  unfold reOneGroup
  refine wpAny_bind (m := selfAndSome "Match.span" "span" 0 1 ⟨[.ref ma, .int 0 u], []⟩) (wpAny_pure ?_)
  dsimp only
  refine wpAny_bind (found_any hx ht ?_)
  refine wpAny_bind (m := reGroupNumber _ (.int 0 u)) (wpAny_pure (wpAny_pure ?_))
  dsimp only
  refine wpAny_bind (wpAny_mkInt (wpAny_bind (wpAny_mkInt (wpAny_bind ?_))))
  refine newTuple_N F N (fun h1 F1 N1 => ?_) (by size_fits)
  exact wpAny_pure ⟨_, rfl, h h1 _ _ _ _ F1 N1⟩
theorem group_call {u : Tok} {Q : Value → Shared → Prop} (hx : s.heap.get? ma = some (matchObj x tx pat lim li ta)) (ht : s.heap.get? ta = some (spans k b e)) (hl : x.length ≤ 1000)
    (h : Q (.str ⟨x.cps.extract b e⟩ s.toks) { s with toks := s.toks + 1 }) :
    wpAny (model pw w) A (call (.builtin "re.Match.group") [.ref ma, .int 1 u]) Q E s := by
  refine wpAny_call_entry slot_group (mat_typeIs hx) entry_group ?_ (args_group _ _)
  unfold Builtin.«re.Match.group»
  refine wpAny_bind (m := noKeywords "Match.group" ⟨[.ref ma, .int 1 u], []⟩) (wpAny_pure ?_)
  dsimp only
  refine wpAny_bind (found_any hx ht ?_)
  refine wpAny_bind (m := reGroupNumber _ (.int 1 u)) (wpAny_pure ?_)
  refine wpAny_bind ?_
  show wpAny _ _ (if ((b : Int) < 0 || (e : Int) < 0) = true then pure Value.none else (reTextOf (.str x tx) >>= fun p => reSlice p.1 p.2 b e)) _ _ _
  rw [if_neg (by simp)]
  refine wpAny_bind (m := reTextOf (.str x tx)) (wpAny_pure ?_)
  show wpAny _ _ (mkStr ⟨x.cps.extract b e⟩) _ _ _
  refine wpAny_mkStr (wpAny_pure ⟨_, rfl, h⟩) ?_
  rw [sizeLine_eq]
  have : (x.cps.extract b e).size ≤ x.cps.size := by simp; omega
  have h2 : x.cps.size ≤ 1000 := hl
  show (x.cps.extract b e).size ≤ _
  omega
end
end Mine

namespace Mine
open Builtin.Re
open PySem.Sre (M)
set_option maxRecDepth 100000
theorem entry_subloop : entryFor table "re.Pattern.sub.loop" = some Builtin.«re.Pattern.sub.loop» := entryFor_of_tree (by kernel_rfl)
theorem str_nocall : typeLookup (.type "str") "__call__" = pure none := by rw [typeLookup_type, builtinLookup_eq_fast]; kernel_rfl
section
variable {w : World} {A : Around} {E : Value → Shared → Prop} {s : Shared} {a i g : Nat} {x : Str} {t : Tok} {h₀ : Heap} {L : Addr} {m : Map} {news : Led}
theorem push_seq {D : Addr} {its : Array Value} {n : Nat} {v : Value} {Q : Unit → Shared → Prop} (ho : s.heap.get? D = some { cls := .type "list", data := .seq its n }) (hsz : its.size ≤ sizeLine)
    (h : ∀ h', Heap.SameBut D s.heap h' → h'.get? D = some { cls := .type "list", data := .seq (its.push v) (n + 1) } → Q () { s with heap := h' }) : wpAny (model pw w) A (updateSeq D (·.push v)) Q E s := by
  refine wpAny_updateSeq ho rfl (h _ (Heap.SameBut.update ..) ?_)
  rw [Heap.get?_update_self _ ho (by rw [mapSeq_push]; rfl), mapSeq_push]
theorem whole_any {Q : ReTarget → Shared → Prop} (P : Pat s.heap a i g)
    (h : Q ⟨.ref a, .str x t, codeOf (stm i), x.cps, 0, g, 0, x.cps.size⟩ s) : wpAny (model pw w) A (reWholeTarget (.ref a) (.str x t)) Q E s := by
  obtain ⟨o, vs, ca, oc, its, n, h1, h2, h3, h4, h5, h6, h7, h8, h9, h10⟩ := P
  unfold reWholeTarget
  refine wpAny_bind (wpAny_fieldsOf h1 h4 ?_)
  refine wpAny_bind (m := reTextOf (.str x t)) (wpAny_pure ?_)
  dsimp only
  rw [h7, if_neg (by decide), if_neg (by decide)]
  refine wpAny_bind (m := reNoCollectionInside (.str x t) 0) (wpAny_pure ?_)
  refine wpAny_bind ?_
  unfold reRawItems
  rw [h6]
  refine wpAny_bind (wpAny_seqItems h8 h9 (wpAny_pure (wpAny_pure ?_)))
  rw [h5, show (Array.map (fun x => Int.toNat x) (Array.map reRawOf ((some its).getD #[]))) = codeOf (stm i) from h10]
  exact h
theorem lit_any {e : Str} {te : Tok} {Q : Unit → Shared → Prop} (h : Q () s) : wpAny (model pw w) A (reLiteralCannotBeTurned (.str e te)) Q E s := by
  unfold reLiteralCannotBeTurned
  refine wpAny_bind (m := asStr? (.str e te)) (wpAny_pure ?_)
  dsimp only [Option.isNone]
  rw [if_neg Bool.false_ne_true]
  exact wpAny_pure h
theorem next_hit {k n0 : Nat} {tg : ReTarget} {pv sv : Value} {Q : Option M → Shared → Prop} (htg : tg = ⟨pv, sv, cTwin, x.cps, 0, 0, 0, x.cps.size⟩) (hn0 : n0 = 0) (hkt : k ≤ x.cps.size) (hsz : x.cps.size ≤ 1000) (hy : ∀ j, j < k → x.cps.getD j 0 ∈ [59, 32]) (hend : k = x.cps.size ∨ x.cps.getD k 0 ∈ tokCh)
    (h : ∀ mm : M, mm.start = 0 → mm.handed = k → Q (some mm) s) :
    wpAny (model pw w) A (reNextFound tg n0 false) Q E s := by
  obtain ⟨n1, mm, hn1, hr1, ho1, hs1, hh1⟩ := twin_search hkt hsz hy hend
  subst htg hn0
  unfold reNextFound
  dsimp only
  generalize Sre.forSearch cTwin x.cps 0 0 x.cps.size false = m0 at hr1 ⊢
  subst hr1
  exact run_end hn1 (.inl ⟨ho1, h _ hs1 hh1⟩)
theorem next_miss {n k : Nat} {pv sv : Value} {Q : Option M → Shared → Prop} (hn : n < 2 ^ 60) (ho : (M.runFor n (Sre.forSearch cTwin x.cps 0 k x.cps.size false)).outcome = some .failed) (h : Q none s) :
    wpAny (model pw w) A (reNextFound ⟨pv, sv, cTwin, x.cps, 0, 0, 0, x.cps.size⟩ k false) Q E s := by
  unfold reNextFound
  exact run_end hn (.inr ⟨ho, h⟩)
abbrev loopArgs (a : Nat) (x : Str) (t te : Tok) (n k : Nat) (D : Addr) : Args := ⟨[.ref a, .str x t, .str ⟨#[]⟩ te, rawInt 0, rawInt 0, rawInt n, rawInt k, rawInt k, .bool false, .ref D, .bool true], []⟩
theorem loop_miss {n k : Nat} {te : Tok} {D : Addr} {Q : Fin → Shared → Prop} (P : Pat s.heap a 5 0) (hk : 0 < k) (hkt : k ≤ x.cps.size) (hsz : x.cps.size ≤ 1000)
    (h : wpAny (model pw w) A (do
      if k < x.cps.size then updateSeq D (·.push (← reSlice x.cps 0 k x.cps.size))
      let joiner ← reSlice x.cps 0 0 0
      let text ← if ((← seqItems? (.ref D)).getD #[]).isEmpty then pure joiner else call (.builtin "str.join") [joiner, .ref D]
      ret (← holding [text] do newTuple [text, ← mkInt n])) Q E s) :
    wpAny (model pw w) A (Builtin.«re.Pattern.sub.loop» (loopArgs a x t te n k D)) Q E s := by
  obtain ⟨n2, hn2, ho2⟩ := twin_next (t := x.cps) hk hkt hsz
  unfold Builtin.«re.Pattern.sub.loop»
  refine wpAny_bind ?_
  refine whole_any P ?_
  rw [if_pos (by decide)]
  refine wpAny_bind ?_
  refine lit_any ?_
  refine wpAny_bind ?_
  rw [if_neg (by simp)]
  refine next_miss hn2 ho2 ?_
  exact h

theorem bind_next {k : Nat} {pv sv : Value} {α : Type} {f : Option M → Sem α} {nf : Sem (Option M)} {Q : α → Shared → Prop} (hkt : k ≤ x.cps.size) (hsz : x.cps.size ≤ 1000)
    (hy : ∀ j, j < k → x.cps.getD j 0 ∈ [59, 32]) (hend : k = x.cps.size ∨ x.cps.getD k 0 ∈ tokCh) (hnf : (if (((0 : Int) != 0) && decide (((0 : Nat) : Int) ≥ 0)) = true then pure none else reNextFound { pattern := pv, string := sv, code := codeOf (stm 5), text := x.cps, kind := 0, groups := 0, pos := 0, lim := x.cps.size } (((0 : Nat) : Int)).toNat false) = nf) (hq : ∀ mm : M, mm.start = 0 → mm.handed = k → wpAny (model pw w) A (f (some mm)) Q E s) : wpAny (model pw w) A (nf >>= f) Q E s := by
  rw [if_neg (by simp)] at hnf
  generalize htg : ({ pattern := pv, string := sv, code := codeOf (stm 5), text := x.cps, kind := 0, groups := 0, pos := 0, lim := x.cps.size } : ReTarget) = tg at hnf
  subst hnf
  refine wpAny_bind ?_
  exact next_hit (k := k) (x := x) htg.symm rfl hkt hsz hy hend hq
theorem loop_hit {k : Nat} {te : Tok} {D : Addr} {Q : Fin → Shared → Prop} (P : Pat s.heap a 5 0) (hk : 0 < k) (hkt : k ≤ x.cps.size) (hsz : x.cps.size ≤ 1000)
    (hy : ∀ j, j < k → x.cps.getD j 0 ∈ [59, 32]) (hend : k = x.cps.size ∨ x.cps.getD k 0 ∈ tokCh) (hD : s.heap.get? D = some { cls := .type "list", data := .seq #[] })
    (h : ∀ h', Heap.SameBut D s.heap h' → h'.get? D = some { cls := .type "list", data := .seq #[.str ⟨#[]⟩ te] 1 } → Q (.again (.builtin "re.Pattern.sub.loop" (loopArgs a x t te 1 k D))) { s with heap := h' }) :
    wpAny (model pw w) A (Builtin.«re.Pattern.sub.loop» (loopArgs a x t te 0 0 D)) Q E s := by
  unfold Builtin.«re.Pattern.sub.loop»
  refine wpAny_bind ?_
  refine whole_any P ?_
  rw [if_pos (by decide)]
  refine wpAny_bind ?_
  refine lit_any ?_
  dsimp only
  generalize hnf : (if (((0 : Int) != 0) && decide (((0 : Nat) : Int) ≥ 0)) = true then pure none else reNextFound { pattern := .ref a, string := .str x t, code := codeOf (stm 5), text := x.cps, kind := 0, groups := 0, pos := 0, lim := x.cps.size } (((0 : Nat) : Int)).toNat false) = nf
  refine bind_next hkt hsz hy hend hnf fun mm hs1 hh1 => ?_
  clear hnf
  dsimp only
  rw [hs1, hh1]
  rw [if_neg (by decide), if_pos (by decide)]
  refine wpAny_bind (wpAny_pure ?_)
  rw [if_pos (by rfl)]
  refine wpAny_bind ?_
  refine push_seq hD (by size_fits) fun h2 hs2 ho3 => ?_
  have e : (k == 0) = false := by simp; omega
  rw [e]
  exact wpAny_pure (h h2 hs2 ho3)
end
end Mine

namespace Mine
open Builtin.Re
open PySem.Sre (M)
set_option maxRecDepth 100000
section
variable {w : World} {A : Around} {E : Value → Shared → Prop} {s : Shared} {a i g : Nat} {x : Str} {t : Tok} {h₀ : Heap} {L : Addr} {m : Map} {news : Led}
theorem push_hd {D : Addr} {its : Array Value} {n : Nat} {v : Value} {Q : Unit → Shared → Prop} (F : Fr h₀ L s.heap m) (N : News h₀ L s.heap ((D, lst its n) :: news)) (hne : ∀ p ∈ news, p.1 ≠ D) (hsz : its.size ≤ sizeLine)
    (h : ∀ h', Fr h₀ L h' m → News h₀ L h' ((D, lst (its.push v) (n + 1)) :: news) → Q () { s with heap := h' }) : wpAny (model pw w) A (updateSeq D (·.push v)) Q E s :=
  push_seq (N.get (.head _)) hsz fun h' hs ho' => h h' (F.change hs (N _ (.head _)).2.1 (N _ (.head _)).2.2) (N.setHead hne hs ho')
theorem slice_any {b e : Nat} {Q : Value → Shared → Prop} (hx : x.cps.size ≤ 1000) (h : Q (.str ⟨x.cps.extract b e⟩ s.toks) { s with toks := s.toks + 1 }) : wpAny (model pw w) A (reSlice x.cps 0 b e) Q E s := by
  show wpAny _ _ (mkStr ⟨x.cps.extract b e⟩) _ _ _
  refine wpAny_mkStr h ?_
  rw [sizeLine_eq]
  have : (x.cps.extract b e).size ≤ x.cps.size := by simp; omega
  show (x.cps.extract b e).size ≤ _
  omega
theorem loop_end {s₁ : Shared} {its : Array Value} {n k : Nat} {D : Addr} {ys : List Str} {R : Result → Shared → Prop} {A' : Around} (hsz : x.cps.size ≤ 1000) (F1 : Fr h₀ L s₁.heap m) (N1 : News h₀ L s₁.heap ((D, lst its n) :: news)) (hs : StrsAre its.toList ys) (hok : (ys.map (·.length)).sum + ys.length * 64 ≤ 16777216) (he : its.isEmpty = false) (hj : Txt.join ⟨#[]⟩ ys = ⟨x.cps.extract k x.cps.size⟩) (e1 : s₁ = { s with heap := s₁.heap, toks := s₁.toks })
    (h : ∀ h' T tk t1 t2, Fr h₀ L h' m → News h₀ L h' ((T, tupOf [.str ⟨x.cps.extract k x.cps.size⟩ t1, .int 1 t2]) :: news) → R (.ok (.ret (.ref T))) { s with heap := h', toks := tk }) :
    wpAny (model pw w) A' (do
        let joiner ← reSlice x.cps 0 0 0
        let text ← if ((← seqItems? (.ref D)).getD #[]).isEmpty then pure joiner else call (.builtin "str.join") [joiner, .ref D]
        ret (← holding [text] do newTuple [text, ← mkInt (1 : Nat)])) (fun fin s' => match fin with | .done f => R (.ok f) s' | .again c' => c'.quiet = true ∧ codeAny (model pw w) A c' R s') E s₁ := by
  refine wpAny_bind (slice_any hsz ?_)
  refine wpAny_bind (wpAny_seqItems (N1.get (.head _)) rfl ?_)
  rw [show (some its).getD #[] = its from rfl, he, if_neg (by decide)]
  have e0 : x.cps.extract 0 0 = #[] := by simp
  rw [e0]
  refine wpAny_bind ?_
  refine join_listC (s := { s₁ with toks := s₁.toks + 1 }) (N1.isList (.head _)) hs (by decide) hok fun t' k' => ?_
  rw [hj]
  refine wpAny_bind (wpAny_holding ?_)
  refine wpAny_bind (wpAny_mkInt ?_)
  refine newTuple_N (s := { s₁ with toks := k' + 1 }) F1 N1 (fun h1 F2 N2 => wpAny_pure ?_) (by size_fits)
  rw [e1]
  exact h h1 _ _ _ _ F2 (fun p hp => N2 p (by rcases List.mem_cons.mp hp with rfl | hp; exact .head _; exact .tail _ (.tail _ hp)))
theorem loop2 {k : Nat} {te : Tok} {D : Addr} {R : Result → Shared → Prop} (P : Pat h₀ a 5 0) (F : Fr h₀ L s.heap m) (N : News h₀ L s.heap ((D, lst #[.str ⟨#[]⟩ te] 1) :: news)) (hne : ∀ p ∈ news, p.1 ≠ D) (hk : 0 < k) (hkt : k ≤ x.cps.size) (hsz : x.cps.size ≤ 1000)
    (h : ∀ h' T tk t1 t2, Fr h₀ L h' m → News h₀ L h' ((T, tupOf [.str ⟨x.cps.extract k x.cps.size⟩ t1, .int 1 t2]) :: news) → R (.ok (.ret (.ref T))) { s with heap := h', toks := tk }) :
    codeAny (model pw w) A (.builtin "re.Pattern.sub.loop" (loopArgs a x t te 1 k D)) R s := by
  refine codeAny_builtin entry_subloop (loop_miss (P.keeps F.keep) hk hkt hsz ?_)
  by_cases hlt : k < x.cps.size
  · rw [if_pos hlt]
    refine wpAny_bind (slice_any hsz ?_)
    refine wpAny_bind (push_hd F N hne (by size_fits) fun h' F' N' => ?_)
    refine loop_end (s := s) (s₁ := { s with heap := h', toks := s.toks + 1 }) (ys := [⟨#[]⟩, ⟨x.cps.extract k x.cps.size⟩]) hsz F' N' (.cons _ _ (.cons _ _ .nil)) ?_ rfl ?_ rfl h
    · have : (x.cps.extract k x.cps.size).size ≤ 1000 := by simp; omega
      simp [Str.length] at this ⊢; omega
    · show Builtin.Str.glued _ _ = _
      simp [Builtin.Str.glued, Str.empty]
  · rw [if_neg hlt]
    refine loop_end (s := s) (ys := [⟨#[]⟩]) hsz F N (.cons _ _ .nil) (by decide) rfl ?_ rfl h
    have : x.cps.extract k x.cps.size = #[] := by rw [show k = x.cps.size by omega]; simp
    rw [this]
    rfl
theorem subn_call {k : Nat} {te : Tok} {Q : Value → Shared → Prop} (P : Pat h₀ a 5 0) (F : Fr h₀ L s.heap m) (N : News h₀ L s.heap news) (hk : 0 < k) (hkt : k ≤ x.cps.size) (hsz : x.cps.size ≤ 1000)
    (hy : ∀ j, j < k → x.cps.getD j 0 ∈ [59, 32]) (hend : k = x.cps.size ∨ x.cps.getD k 0 ∈ tokCh)
    (h : ∀ h' T tk t1 t2, Fr h₀ L h' m → News h₀ L h' ((T, tupOf [.str ⟨x.cps.extract k x.cps.size⟩ t1, .int 1 t2]) :: news) → Q (.ref T) { s with heap := h', toks := tk }) :
    wpAny (model pw w) A (call (.builtin "re.Pattern.subn") [.ref a, .str ⟨#[]⟩ te, .str x t]) Q E s := by
  have P' := P.keeps F.keep
  refine wpAny_call (codeAny_call_builtin slot_subn.plain entry_subn (slot_subn.check _ _ _ _ _ _ _ _ P'.typeIs (args_subn _ _ _) ?_))
  unfold Builtin.«re.Pattern.subn» reSubstitute
  dsimp only
  rw [show reNamed "re.Pattern.subn" "subn" ["repl", "string", "count"] 2 [.str ⟨#[]⟩ te, .str x t] [] = pure [some (.str ⟨#[]⟩ te), some (.str x t), none] from rfl]
  refine wpAny_bind (wpAny_pure ?_)
  dsimp only
  refine wpAny_bind (wpAny_pure ?_)
  refine wpAny_bind (wpAny_specialOf (T := "str") rfl str_nocall ?_)
  dsimp only [Option.isSome]
  rw [if_neg (by decide)]
  refine wpAny_bind (m := asStr? (.str ⟨#[]⟩ te)) (wpAny_pure ?_)
  dsimp only
  refine wpAny_bind (wpAny_pure ?_)
  rw [if_neg (by decide), if_pos (by simp)]
  refine wpAny_bind (wpAny_pure ?_)
  dsimp only
  refine wpAny_bind (wpAny_holding (whole_any P' ?_))
  rw [if_neg (by decide)]
  refine wpAny_bind (newList_N F N (fun h1 F1 N1 => wpAny_pure ?_) (by size_fits))
  have hne : ∀ p ∈ news, p.1 ≠ s.heap.objs.size := fun p hp => Nat.ne_of_lt (Heap.lt_size (N p hp).1)
  refine ⟨Code.quiet_builtin _ (by decide +kernel), codeAny_builtin entry_subloop (loop_hit (P.keeps F1.keep) hk hkt hsz hy hend (N1.get (.head _)) fun h2 hs2 ho2 => ?_)⟩
  refine ⟨Code.quiet_builtin _ (by decide +kernel), ?_⟩
  refine loop2 (news := news) (s := { s with heap := h2 }) P (F1.change hs2 (N1 _ (.head _)).2.1 (N1 _ (.head _)).2.2) (N1.setHead hne hs2 ho2) hne hk hkt hsz fun h' T tk t1 t2 F' N' => ?_
  exact h h' T tk t1 t2 F' N'
end
end Mine

namespace Mine
/-- a text by the list of its signs -/
abbrev T (l : List Nat) : Str := ⟨l.toArray⟩
theorem T_eta (x : Str) : x = T x.cps.toList := by cases x; simp [T]
theorem T_len (l : List Nat) : (T l).length = l.length := by simp [Str.length]
theorem T_app (a b : List Nat) : T a ++ T b = T (a ++ b) := by
  show (⟨a.toArray ++ b.toArray⟩ : Str) = _
  simp
theorem T_inj {a b : List Nat} : T a = T b ↔ a = b := by
  constructor
  · intro h; injection h with h; simpa using congrArg Array.toList h
  · rintro rfl; rfl
theorem T_slice {l : List Nat} {i j : Nat} (h1 : i ≤ j) (h2 : j ≤ l.length) : Txt.slice (T l) (some (i : Int)) (some (j : Int)) = T ((l.drop i).take (j - i)) := by
  have := eq_of_beq (slice_closesL (x := T l) (i := (i : Int)) (j := (j : Int)) (by omega) (by omega) (by rw [T_len]; omega))
  rw [this]
  have e1 : ((j : Int) - i).toNat = j - i := by omega
  simp [T, e1]
theorem T_slice_to {l : List Nat} {j : Nat} (h2 : j ≤ l.length) : Txt.slice (T l) none (some (j : Int)) = T (l.take j) := by
  have := eq_of_beq (slice_closes_toL (x := T l) (j := (j : Int)) (by omega) (by rw [T_len]; omega))
  rw [this]
  have e1 : ((j : Int) - 0).toNat = j := by omega
  simp [T]
theorem T_slice_from {l : List Nat} {i : Nat} (h2 : i ≤ l.length) : Txt.slice (T l) (some (i : Int)) none = T (l.drop i) := by
  have := eq_of_beq (slice_closes_fromL (x := T l) (i := (i : Int)) (b := (l.length : Int)) (by omega) (by rw [T_len]; omega) (by rw [T_len]))
  rw [this]
  have e1 : ((l.length : Int) - i).toNat = l.length - i := by omega
  simp [T, e1, List.take_of_length_le]
theorem T_extract {l : List Nat} {i : Nat} : (⟨(T l).cps.extract i (T l).cps.size⟩ : Str) = T (l.drop i) := by
  simp [T, List.take_of_length_le]
theorem T_extract2 {l : List Nat} {i j : Nat} : (⟨(T l).cps.extract i j⟩ : Str) = T ((l.drop i).take (j - i)) := by
  simp [T]
end Mine

namespace Mine
open Builtin.Re
set_option maxRecDepth 100000
theorem Fr.more {h₀ h h' : Heap} {L : Addr} {m : Map} (F : Fr h₀ L h m) (k : ∀ b o, h.get? b = some o → h'.get? b = some o) : Fr h₀ L h' m := ⟨F.ns.keeps k, fun b o e => k b o (F.keep b o e), F.above⟩
theorem News.more' {h₀ h h' : Heap} {L : Addr} {n : Led} (N : News h₀ L h n) (k : ∀ b o, h.get? b = some o → h'.get? b = some o) : News h₀ L h' n := fun p hp => ⟨k _ _ (N p hp).1, (N p hp).2⟩
local macro_rules | `(tactic| walk_at "getMethod ref") => `(tactic| (with_reducible show wpAny _ _ (getMethod (Value.ref _) _ _) _ _ _); refine mat_method (Fr.keep (by assumption) _ _ (by assumption)) slot_span type_span ?_)
local macro_rules | `(tactic| walk_at "call builtin:re.Match.span") => `(tactic| refine span_call (by assumption) (by assumption) (Fr.keep (by assumption) _ _ (by assumption)) (Fr.keep (by assumption) _ _ (by assumption)) ?_; intro _ _ _ _ _ _ _)
local macro_rules | `(tactic| walk_at "assign Tuple") => `(tactic| (with_reducible show wpAny _ _ (assign (Expr.Tuple _ _ _) _ (Value.ref _)) _ _ _); refine unpackN_ (by assumption) (by assumption) (News.isTup (by assumption) (.head _)) (by assumption) rfl rfl ?_; intro _ _ _)
local macro_rules | `(tactic| walk_at "getAttr ref") => `(tactic| (with_reducible show wpAny _ _ (getAttr (Value.ref _) _ _) _ _ _); refine string_attr (Fr.keep (by assumption) _ _ (by assumption)) ?_)
local macro_rules | `(tactic| walk_at "subscriptTail Attribute") => `(tactic| ((with_reducible show wpAny _ _ (subscriptTail _ (Expr.Slice none (some _) none _) (Value.str _ _) (Value.ref _)) _ _ _); (with_reducible rename Fr _ _ _ _ => F'); (with_reducible rename News _ _ _ _ => N'); refine slice_strN_ns_len (s := ⟨_, _, _, _, _⟩) F' N' ?_; intro _ _ _ _ _ _))
local macro_rules | `(tactic| walk_at "subscriptTail Attribute") => `(tactic| ((with_reducible show wpAny _ _ (subscriptTail _ (Expr.Slice (some _) none none _) (Value.str _ _) (Value.ref _)) _ _ _); (with_reducible rename Fr _ _ _ _ => F'); (with_reducible rename News _ _ _ _ => N'); refine slice_strN_sn_len (s := ⟨_, _, _, _, _⟩) F' N' ?_; intro _ _ _ _ _ _))
set_option maxHeartbeats 4000000 in
theorem unmatched_call {w : World} {A : Around} {s : Shared} {mg mb : Map} {ma ta pat lim k b e : Nat} {l : List Nat} {tx : Tok} {li : Int} {R : Result → Shared → Prop}
    (S : Stat mg mb s.heap) (hd : A.depth + 5 < recursionLimit) (hh : A.handled = none) (hx : l.length ≤ 300) (hk : k ≤ l.length)
    (hm : s.heap.get? ma = some (matchObj (T l) tx pat lim li ta)) (ht : s.heap.get? ta = some (spans k b e))
    (hR : ∀ h' tk t', (∀ b o, s.heap.get? b = some o → h'.get? b = some o) → R (.ok (.ret (.str (T (l.drop k)) t'))) { s with heap := h', toks := tk }) :
    codeAny (model pw w) A (.call (.ref 57) ⟨[.ref ma], []⟩) R s := by
  obtain ⟨o, pm, doc, h1, h2, h3⟩ := S.defs (57, 6, 56) (by decide)
  refine call_plain_ret (binds := [("match", .ref ma)]) (by omega) h1 h2 S.nolimit h3 rfl (locs rfl) ?_ rfl rfl rfl (by decide)
  intro h₁ F
  conv in (bodyOf (stm (57, 6, 56).2.1)) => whnf
  have N : News s.heap s.heap.objs.size h₁ [] := News.nil
  have hx' : (T l).length ≤ 300 := by rw [T_len]; exact hx
  repeat' walk1
  have e : Txt.slice (T l) none (some ((0 : Nat) : Int)) ++ Txt.slice (T l) (some (k : Int)) none = T (l.drop k) := by
    rw [T_slice_to (Nat.zero_le _), T_slice_from hk, T_app]; rfl
  rw [e]
  exact hR _ _ _ (Fr.keep (by assumption))
end Mine

namespace Mine
open Builtin.Re
open PySem.Sre (M)
set_option maxRecDepth 100000
structure Pats (h : Heap) : Prop where
  tok : Pat h 62 7 1
  quo : Pat h 67 8 1
  val : Pat h 72 9 1
  twin : Pat h 50 5 0
  join : Pat h 89 12 0
theorem Pats.keeps {h h' : Heap} (P : Pats h) (k : ∀ b o, h.get? b = some o → h'.get? b = some o) : Pats h' :=
  ⟨P.tok.keeps k, P.quo.keeps k, P.val.keeps k, P.twin.keeps k, P.join.keeps k⟩
theorem T_size (l : List Nat) : (T l).cps.size = l.length := by simp
theorem T_get (l : List Nat) (i : Nat) : (T l).cps.getD i 0 = l.getD i 0 := by simp
theorem getD_mem {l : List Nat} {i : Nat} (h : i < l.length) : l.getD i 0 ∈ l := by simp [h]
theorem getD_left {k l : List Nat} {i : Nat} (h : i < k.length) : (k ++ l).getD i 0 = k.getD i 0 := by simp [List.getElem?_append_left h]
theorem getD_right {k l : List Nat} : (k ++ l).getD k.length 0 = l.getD 0 0 := by simp [List.getElem?_append_right]
section
variable {w : World} {A : Around} {E : Value → Shared → Prop} {s : Shared} {l : List Nat} {t : Tok} {h₀ : Heap} {L : Addr} {m : Map} {news : Led}
theorem tok_miss {Q : Value → Shared → Prop} (P : Pats h₀) (F : Fr h₀ L s.heap m) (h0 : 0 < l.length) (hl : l.length ≤ 300) (hc : l.getD 0 0 = 59) (h : Q .none s) :
    wpAny (model pw w) A (call (.builtin "re.Pattern.search") [.ref 62, .str (T l) t]) Q E s := by
  obtain ⟨n, hn, hr⟩ := tok_fail (t := (T l).cps) (by rw [T_size]; exact h0) (by rw [T_size]; omega) (by rw [T_get]; exact hc)
  exact search_miss F P.tok (by rw [T_size]; omega) hn hr h
theorem quo_miss {Q : Value → Shared → Prop} (P : Pats h₀) (F : Fr h₀ L s.heap m) (hl : l.length ≤ 300) (hc : l.getD 0 0 = 59 ∨ (l.getD 0 0 = 61 ∧ l.getD 1 0 ∈ [55, 126])) (h : Q .none s) :
    wpAny (model pw w) A (call (.builtin "re.Pattern.search") [.ref 67, .str (T l) t]) Q E s := by
  obtain ⟨n, hn, hr⟩ := quo_fail (t := (T l).cps) (by rw [T_size]; omega) (by rw [T_get, T_get]; exact hc)
  exact search_miss F P.quo (by rw [T_size]; omega) hn hr h
theorem val_miss {Q : Value → Shared → Prop} (P : Pats h₀) (F : Fr h₀ L s.heap m) (h0 : 0 < l.length) (hl : l.length ≤ 300) (hc : l.getD 0 0 = 59) (h : Q .none s) :
    wpAny (model pw w) A (call (.builtin "re.Pattern.search") [.ref 72, .str (T l) t]) Q E s := by
  obtain ⟨n, hn, hr⟩ := val_fail (t := (T l).cps) (by rw [T_size]; exact h0) (by rw [T_size]; omega) (by rw [T_get]; exact hc)
  exact search_miss F P.val (by rw [T_size]; omega) hn hr h
theorem tok_hit {k : List Nat} {Q : Value → Shared → Prop} (P : Pats h₀) (F : Fr h₀ L s.heap m) (N : News h₀ L s.heap news) (hk : 0 < k.length) (hy : ∀ c ∈ k, c ∈ tokCh) (hl : (k ++ l).length ≤ 300) (he : l.getD 0 0 ∈ [59, 61])
    (h : ∀ h' (ma ta : Addr), Fr h₀ L h' m → News h₀ L h' ((ma, matchObj (T (k ++ l)) t 62 (T (k ++ l)).cps.size 1 ta) :: (ta, spans k.length 0 k.length) :: news) → Q (.ref ma) { s with heap := h' }) :
    wpAny (model pw w) A (call (.builtin "re.Pattern.search") [.ref 62, .str (T (k ++ l)) t]) Q E s := by
  obtain ⟨n, mm, hn, hr, ho, hs, hh, hmk, hlm, hli⟩ := tok_search (t := (T (k ++ l)).cps) (k := k.length) hk (by rw [T_size, List.length_append]; omega) (by rw [T_size]; omega)
    (fun j hj => by rw [T_get, getD_left hj]; exact hy _ (getD_mem hj)) (.inr (by rw [T_get, getD_right]; exact he))
  exact search_hit F N P.tok (by rw [T_size]; omega) hn hr ho hs hh hmk hlm hli (Nat.zero_le _) fun h' ma ta F' N' _ _ => h h' ma ta F' N'
theorem val_hit {v : List Nat} {Q : Value → Shared → Prop} (P : Pats h₀) (F : Fr h₀ L s.heap m) (N : News h₀ L s.heap news) (hv : v ∈ [[55], [126, 39]]) (hl : (61 :: (v ++ l)).length ≤ 300) (he : l.getD 0 0 = 59)
    (h : ∀ h' (ma ta : Addr), Fr h₀ L h' m → News h₀ L h' ((ma, matchObj (T (61 :: (v ++ l))) t 72 (T (61 :: (v ++ l))).cps.size 1 ta) :: (ta, spans (1 + v.length) 1 (1 + v.length)) :: news) → Q (.ref ma) { s with heap := h' }) :
    wpAny (model pw w) A (call (.builtin "re.Pattern.search") [.ref 72, .str (T (61 :: (v ++ l))) t]) Q E s := by
  have hl0 : 0 < l.length := by
    cases l with
    | nil => simp at he
    | cons => simp
  have hv0 : 0 < v.length := by
    simp only [List.mem_cons, List.not_mem_nil, or_false] at hv
    rcases hv with rfl | rfl <;> decide
  have hg : ∀ j, (61 :: (v ++ l)).getD (1 + j) 0 = (v ++ l).getD j 0 := fun j => by rw [Nat.add_comm]; simp
  obtain ⟨n, mm, hn, hr, ho, hs, hh, hmk, hlm, hli⟩ := val_search (t := (T (61 :: (v ++ l))).cps) (k := v.length) hv0 (by rw [T_size]; simp; omega) (by rw [T_size]; omega) (by rw [T_get]; rfl)
    (fun j hj => by
      rw [T_get, hg, getD_left hj]
      have := getD_mem hj
      simp only [List.mem_cons, List.not_mem_nil, or_false] at hv
      rcases hv with rfl | rfl <;> simp only [List.mem_cons, List.not_mem_nil, or_false] at this ⊢ <;> omega) (by rw [T_get, hg, getD_right]; exact he)
  exact search_hit F N P.val (by rw [T_size]; omega) hn hr ho hs hh hmk hlm hli (by omega) fun h' ma ta F' N' _ _ => h h' ma ta F' N'
theorem twin_subn {j : List Nat} {te : Tok} {Q : Value → Shared → Prop} (P : Pats h₀) (F : Fr h₀ L s.heap m) (N : News h₀ L s.heap news) (hk : 0 < j.length) (hy : ∀ c ∈ j, c ∈ [59, 32]) (hl : (j ++ l).length ≤ 300) (he : l = [] ∨ l.getD 0 0 ∈ tokCh)
    (h : ∀ h' V tk t1 t2, Fr h₀ L h' m → News h₀ L h' ((V, tupOf [.str (T l) t1, .int 1 t2]) :: news) → Q (.ref V) { s with heap := h', toks := tk }) :
    wpAny (model pw w) A (call (.builtin "re.Pattern.subn") [.ref 50, .str ⟨#[]⟩ te, .str (T (j ++ l)) t]) Q E s := by
  refine subn_call (k := j.length) P.twin F N hk (by rw [T_size, List.length_append]; omega) (by rw [T_size]; omega) (fun i hi => by rw [T_get, getD_left hi]; exact hy _ (getD_mem hi)) ?_ ?_
  · rcases he with rfl | he
    · exact .inl (by rw [T_size]; simp)
    · exact .inr (by rw [T_get, getD_right]; exact he)
  · intro h' V tk t1 t2 F' N'
    rw [T_extract, List.drop_left] at N'
    exact h h' V tk t1 t2 F' N'
end
end Mine

namespace Mine
theorem for_frC {w : World} {A : Around} {E : Value → Shared → Prop} {s : Shared} {env : Env} {target iter : Expr} {body : List Stmt} {pos : Pos} {Q : Flow → Shared → Prop} {h₀ : Heap} {L : Addr} {m : Map} {news : Led} {l : Addr} {vs : List Value}
    (K : Nat → Map → Led → Array GenState → Prop) (hh : A.handled = none) (F : Fr h₀ L s.heap m) (N : News h₀ L s.heap news)
    (hiter : ∀ Q' : Value → Shared → Prop, Q' (.ref l) s → wpAny (model pw w) A (eval iter env) Q' E s)
    (hl : ∀ i m₁ n₁ g h, K i m₁ n₁ g → Fr h₀ L h m₁ → News h₀ L h n₁ → h.IsList l vs.toArray)
    (hgo : ∀ (I : Addr) (j i : Nat) (v : Value) (s' : Shared) (E' : Value → Shared → Prop), vs[i]? = some v → s'.heap.IsListIter I l j → ∀ Q' : Unit → Shared → Prop, Q' () s' → wpAny (model pw w) A (letOwnedTupleGo target (.ref I) v) Q' E' s')
    (k0 : K 0 m news s.gens)
    (turn : ∀ (I : Addr) (oI : Obj) (i : Nat) (v : Value) m₁ n₁ g h tk, vs[i]? = some v → K i m₁ n₁ g → Fr h₀ L h m₁ → News h₀ L h ((I, oI) :: n₁) → (∀ p ∈ n₁, p.1 ≠ I) → oI.cls = .type "list_iterator" →
      wpAny (model pw w) A (assign target env v) (fun _ s₂ => wpAny (model pw w) A (execs body env) (fun f s₃ => match f with
        | .next | .cont => TurnEnd h₀ L (K (i + 1)) I oI s s₃
        | .brk => Q .next s₃
        | .ret v => Q (.ret v) s₃) E s₂) E { s with heap := h, toks := tk, gens := g })
    (done : ∀ m' n' g' h' tk', K vs.length m' n' g' → Fr h₀ L h' m' → News h₀ L h' n' → Q .next { s with heap := h', toks := tk', gens := g' })
    (hs : ∀ x, foldedSetIterable iter env x = pure x := by intro _; rfl)
    (hE : PassesOwn (model pw w) A env E := by passes_own) :
    wpAny (model pw w) A (exec (.For target iter body [] pos) env) Q E s := by
  have hl0 := hl 0 m news s.gens s.heap k0 F N
  refine wpAny_For (hiter _ (wpAny_pyIter_list hl0 ?_)) hs
  generalize hI : s.heap.objs.size = I
  have hlI : ∀ i m₁ n₁ g h, K i m₁ n₁ g → Fr h₀ L h m₁ → News h₀ L h n₁ → h.IsList l vs.toArray := hl
  have hnI : h₀.get? I = none := by
    cases q : h₀.get? I with
    | none => rfl
    | some o => exact absurd (Heap.lt_size (F.keep _ _ q)) (by rw [hI]; exact Nat.lt_irrefl _)
  have hIL : I ≠ L := by
    obtain ⟨oL, _, _, hL, _⟩ := F.ns
    exact Nat.ne_of_gt (hI ▸ Heap.lt_size hL)
  have hlneI : l ≠ I := by
    obtain ⟨o, ho, _⟩ := hl0
    exact Nat.ne_of_lt (hI ▸ Heap.lt_size ho)
  refine codeAny_forLoop_any (fun k s' => ∃ h' tk' g' m' n' i, s' = { s with heap := h', toks := tk', gens := g' } ∧ h'.IsListIter I l i ∧ Fr h₀ L h' m' ∧ News h₀ L h' n' ∧ (∀ p ∈ n', p.1 ≠ I) ∧ K i m' n' g' ∧ i ≤ vs.length ∧ k = vs.length + 1 - i) ?_ (vs.length + 1)
    ⟨_, s.toks, s.gens, m, news, 0, rfl, ⟨_, by rw [← hI]; exact Heap.get?_push_size _ rfl, rfl, rfl⟩, F.push _, fun p hp => ⟨Heap.get?_push_of_some _ (N p hp).1, (N p hp).2⟩, (fun p hp => Nat.ne_of_lt (hI ▸ Heap.lt_size (N p hp).1)), k0, Nat.zero_le _, rfl⟩
  rintro k s' ⟨h', tk', g', m', n', i, rfl, hit, F', N', hne, hK, hi, rfl⟩
  have hl' := hl i m' n' g' h' hK F' N'
  by_cases hlt : i < vs.length
  · have hv : vs.toArray[i]? = some vs[i] := by simp [hlt]
    have hv' : vs[i]? = some vs[i] := by simp [hlt]
    refine wpAny_pyNext_list_item hit hl' hv fun h₁ hit₁ hs₁ => ?_
    obtain ⟨oI, hoI, hcI, hdI⟩ := id hit₁
    have F₁ : Fr h₀ L h₁ m' := F'.change hs₁ hIL hnI
    have N₁ : News h₀ L h₁ ((I, oI) :: n') := news_cons.mpr ⟨⟨hoI, hIL, hnI⟩, fun p hp => ⟨(hs₁.2 p.1 (hne p hp)).trans (N' p hp).1, (N' p hp).2⟩⟩
    refine hgo I (i + 1) i vs[i] { s with heap := h₁, toks := tk', gens := g' } _ hv' hit₁ _ ?_
    refine wpAny_passesOwn hE (wpAny_mono (turn I oI i vs[i] m' n' g' h₁ tk' hv' hK F₁ N₁ hne hcI) (fun _ s₂ h₂ => wpAny_passesOwn hE (wpAny_mono h₂ (fun f s₃ h₃ => ?_) fun _ _ e => e)) fun _ _ e => e)
    have fin : TurnEnd h₀ L (K (i + 1)) I oI s s₃ → ∃ k', k' < vs.length + 1 - i ∧ ∃ h' tk' g' m' n' j, s₃ = { s with heap := h', toks := tk', gens := g' } ∧ h'.IsListIter I l j ∧ Fr h₀ L h' m' ∧ News h₀ L h' n' ∧ (∀ p ∈ n', p.1 ≠ I) ∧ K j m' n' g' ∧ j ≤ vs.length ∧ k' = vs.length + 1 - j := by
      rintro ⟨h2, tk2, g2, m2, n2, e, F2, N2, hne2, hK2⟩
      obtain ⟨a, b⟩ := news_cons.mp N2
      exact ⟨vs.length + 1 - (i + 1), by omega, h2, tk2, g2, m2, n2, i + 1, e, ⟨oI, a.1, hcI, hdI⟩, F2, b, hne2, hK2, hlt, rfl⟩
    cases f with
    | ret v => exact h₃
    | brk => exact h₃
    | next => exact fin h₃
    | cont => exact fin h₃
  · have hin : i = vs.length := by omega
    subst hin
    refine wpAny_pyNext_list_end hh hit hl' (by simp) fun h₁ he₁ => wpAny_execs_nil ?_
    have F₁ : Fr h₀ L h₁ m' := ⟨F'.ns.extBut he₁ (Ne.symm hIL), fun b o e => he₁ b o (by rintro rfl; rw [hnI] at e; cases e) (F'.keep b o e), F'.above⟩
    exact done m' n' g' h₁ tk' hK F₁ fun p hp => ⟨he₁ _ _ (hne p hp) (N' p hp).1, (N' p hp).2⟩

end Mine

namespace Mine
open Builtin.Re
set_option maxRecDepth 100000
/-- a header text and the cards that it is read as -/
inductive Reads : List Nat → List Card → Prop
  | done : Reads [] []
  | junk {j l cs} : 0 < j.length → (∀ c ∈ j, c ∈ [59, 32]) → j.getD 0 0 = 59 → (l = [] ∨ l.getD 0 0 ∈ tokCh) → Reads l cs → Reads (j ++ l) cs
  | bare {k l cs} : 0 < k.length → (∀ c ∈ k, c ∈ tokCh) → l.getD 0 0 = 59 → Reads l cs → Reads (k ++ l) ((T k, none) :: cs)
  | val {k v l cs} : 0 < k.length → (∀ c ∈ k, c ∈ tokCh) → v ∈ [[55], [126, 39]] → l.getD 0 0 = 59 → Reads l cs → Reads (k ++ 61 :: (v ++ l)) ((T k, some (T v)) :: cs)
def forBody : Stmt → List Stmt
  | .For _ _ b _ _ => b
  | _ => []
def whBody : Stmt → List Stmt
  | .While _ b _ _ => b
  | _ => []
def whTest : Stmt → Expr
  | .While t _ _ _ => t
  | _ => default
def spFor : List Stmt := forBody ((bodyOf (stm 11)).getD 2 (.Pass default))
def spBody : List Stmt := whBody (spFor.getD 2 (.Pass default))
def spTest : Expr := whTest (spFor.getD 2 (.Pass default))
abbrev tupO (vs : List Value) : Obj := { cls := .type "tuple", data := .seq vs.toArray }
/-- the cards of a list, by the ledger -/
inductive LCards (n : Led) : List Value → List Card → Prop
  | nil : LCards n [] []
  | cons {a t t' vs c cs} : (a, tupO [.str c.1 t, optV c.2 t']) ∈ n → LCards n vs cs → LCards n (.ref a :: vs) (c :: cs)
theorem LCards.mono {n n' : Led} (h : ∀ p ∈ n, p ∈ n') {vs cs} (x : LCards n vs cs) : LCards n' vs cs := by
  induction x with
  | nil => exact .nil
  | cons a _ ih => exact .cons (h _ a) ih
theorem LCards.snoc {n : Led} {vs cs} {a t t'} {c : Card} (x : LCards n vs cs) (h : (a, tupO [.str c.1 t, optV c.2 t']) ∈ n) : LCards n (vs ++ [.ref a]) (cs ++ [c]) := by
  induction x with
  | nil => exact .cons h .nil
  | cons b _ ih => exact .cons b ih
theorem LCards.length {n : Led} {vs cs} (x : LCards n vs cs) : vs.length = cs.length := by
  induction x with
  | nil => rfl
  | cons _ _ ih => simp [ih]
theorem LCards.at {h₀ h : Heap} {L : Addr} {n : Led} (N : News h₀ L h n) {vs cs} (x : LCards n vs cs) : CardsAt h vs cs := by
  induction x with
  | nil => exact .nil
  | cons a _ ih => exact .cons ⟨_, _, _, rfl, _, (N _ a).1, rfl, _, rfl⟩ ih
theorem News.ne_cls {h₀ h : Heap} {L a b : Addr} {o o' : Obj} {n : Led} (N : News h₀ L h n) (ha : (a, o) ∈ n) (hb : (b, o') ∈ n) (hc : o.cls ≠ o'.cls) : a ≠ b := by
  rintro rfl
  have h1 := (N _ ha).1
  rw [(N _ hb).1] at h1
  cases h1
  exact hc rfl
def SJ (p r hv : Addr) (rest : Led) (cs : List Card) (n : Nat) (m : Map) (news : Led) : Prop :=
  ∃ l csL csR its k tups t, n = l.length ∧ Reads l csR ∧ cs = csL ++ csR ∧ l.length ≤ 300 ∧ csL.length + l.length ≤ 300 ∧
    Kn m [(Str.ofString "text", .str (T l) t), (Str.ofString "pairs", .ref p), (Str.ofString "result", .ref r), (Str.ofString "header_values", .ref hv)] ∧
    news = (p, lst its k) :: (tups ++ rest) ∧ LCards tups its.toList csL ∧ ∀ q ∈ tups, q.2.cls = .type "tuple"
local macro_rules | `(tactic| walk_at "no such key") => `(tactic| skip)
local macro_rules | `(tactic| walk_at "eval Name") => `(tactic| first | (refine gname (by assumption) (by assumption) (by rfl) ?_) | (refine bname (by assumption) (by assumption) (by decide) (by first | exact bb_len | exact bb_isinstance | exact bb_str) ?_))
local macro_rules | `(tactic| walk_at "getMethod ref") => `(tactic| ((with_reducible show wpAny _ _ (getMethod (Value.ref _) _ _) _ _ _); first | refine pat_method ((Pats.tok (by assumption)).keeps (Fr.keep (by assumption))) slot_search type_search ?_ | refine pat_method ((Pats.quo (by assumption)).keeps (Fr.keep (by assumption))) slot_search type_search ?_ | refine pat_method ((Pats.val (by assumption)).keeps (Fr.keep (by assumption))) slot_search type_search ?_ | refine pat_method ((Pats.twin (by assumption)).keeps (Fr.keep (by assumption))) slot_subn type_subn ?_))
local macro_rules | `(tactic| walk_at "assign Tuple") => `(tactic| (with_reducible show wpAny _ _ (assign (Expr.Tuple _ _ _) _ (Value.ref _)) _ _ _); refine unpackN_ (by assumption) (by assumption) (News.isTup (by assumption) (.head _)) (by assumption) rfl rfl ?_; intro _ _ _)
theorem lstrip_59 {l : List Nat} (h : l.getD 0 0 = 59) : Txt.lstrip (T l) = T l := by
  obtain ⟨h0, h1, h2⟩ := lo_facts Unicode.isSpace (T l)
  have : stripLo Unicode.isSpace true (T l) = 0 := by
    rcases Nat.eq_zero_or_pos (stripLo Unicode.isSpace true (T l)) with q | q
    · exact q
    · have := h1 0 q
      rw [T_get, h] at this
      exact absurd this (by decide)
  unfold Txt.lstrip
  rw [PyProof.Rows.stripBy_eq, this]
  show Builtin.Str.strSub _ _ (T l).cps.size = _
  unfold Builtin.Str.strSub
  rw [T_extract]; rfl
theorem sw_59 {l : List Nat} (h : l.getD 0 0 = 59) : Txt.startswith (T l) (Str.ofString ",") = false := by
  cases l with
  | nil => simp at h
  | cons a r =>
    simp at h
    subst h
    unfold Txt.startswith Builtin.Str.subAt
    have : ((T (59 :: r)).cps.extract 0 (0 + (Str.ofString ",").length) == (Str.ofString ",").cps) = false := by
      rw [show (Str.ofString ",").length = 1 by decide, show (Str.ofString ",").cps = #[44] by decide]
      simp
    rw [this]; simp
theorem T_ne {l : List Nat} (h : 0 < l.length) : (((T l).length : Int) != 0) = true := by rw [T_len, bne_iff_ne]; omega
section
variable {w : World} {A : Around} {E : Value → Shared → Prop} {s : Shared} {t : Tok} {h₀ : Heap} {L : Addr} {m : Map} {news : Led} {mg mb : Map}
theorem unmatched_w {ma ta pat lim b e k0 : Nat} {a l : List Nat} {tx : Tok} {li : Int} {Q : Value → Shared → Prop} (S : Stat mg mb h₀) (F : Fr h₀ L s.heap m) (N : News h₀ L s.heap news) (hd : A.depth + 5 < recursionLimit) (hh : A.handled = none) (hl : (a ++ l).length ≤ 300)
    (hm : (ma, matchObj (T (a ++ l)) tx pat lim li ta) ∈ news) (ht : (ta, spans k0 b e) ∈ news) (hk0 : k0 = a.length) (h : ∀ h' tk t', Fr h₀ L h' m → News h₀ L h' news → Q (.str (T l) t') { s with heap := h', toks := tk }) :
    wpAny (model pw w) A (call (.ref 57) [.ref ma]) Q E s :=
  wpAny_call (unmatched_call (S.keeps F.keep) hd hh hl (hk0 ▸ by rw [List.length_append]; omega) (N _ hm).1 (N _ ht).1 fun h' tk t' k => by
    rw [hk0, List.drop_left]
    exact h h' tk t' (Fr.more F k) (News.more' N k))
theorem group_w {ma ta pat lim k b : Nat} {a c l : List Nat} {tx u : Tok} {li : Int} {Q : Value → Shared → Prop} (N : News h₀ L s.heap news) (hl : (a ++ (c ++ l)).length ≤ 300)
    (hm : (ma, matchObj (T (a ++ (c ++ l))) tx pat lim li ta) ∈ news) (ht : (ta, spans k b (b + c.length)) ∈ news) (hb : b = a.length) (h : Q (.str (T c) s.toks) { s with toks := s.toks + 1 }) :
    wpAny (model pw w) A (call (.builtin "re.Match.group") [.ref ma, .int 1 u]) Q E s := by
  refine group_call (N _ hm).1 (N _ ht).1 (by rw [T_len]; omega) ?_
  rw [T_extract2, hb, List.drop_left, Nat.add_sub_cancel_left, List.take_left]
  exact h
end
section
variable {w : World} {A : Around} {E : Value → Shared → Prop} {s : Shared} {h₀ : Heap} {L : Addr} {m : Map} {news : Led}
theorem sp_push {V p k : Nat} {its : Array Value} {tups rest : Led} {csL : List Card} {c : Card} {t1 t2 : Tok} {Q : Value → Shared → Prop} (F : Fr h₀ L s.heap m) (N : News h₀ L s.heap news) (hV : (V, tupO [.str c.1 t1, optV c.2 t2]) ∈ news) (hp : (p, lst its k) ∈ news) (ht : ∀ q ∈ tups ++ rest, q ∈ news)
    (htup : ∀ q ∈ tups, q.2.cls = .type "tuple") (hpr : ∀ q ∈ rest, q.1 ≠ p) (hlc : LCards tups its.toList csL) (hsz : csL.length ≤ 300)
    (h : ∀ h' its' tups', Fr h₀ L h' m → News h₀ L h' ((p, lst its' (k + 1)) :: (tups' ++ rest)) → LCards tups' its'.toList (csL ++ [c]) → (∀ q ∈ tups', q.2.cls = .type "tuple") → Q .none { s with heap := h' }) :
    wpAny (model pw w) A (call (.builtin "list.append") [.ref p, .ref V]) Q E s := by
  have N' : News h₀ L s.heap ((p, lst its k) :: (((V, tupO [.str c.1 t1, optV c.2 t2]) :: tups) ++ rest)) := by
    intro q hq
    rcases List.mem_cons.mp hq with rfl | hq
    · exact N _ hp
    · rcases List.mem_cons.mp (by simpa using hq : q ∈ (V, tupO [.str c.1 t1, optV c.2 t2]) :: (tups ++ rest)) with rfl | hq
      · exact N _ hV
      · exact N _ (ht _ hq)
  have hc : Value.type "tuple" ≠ Value.type "list" := by decide
  refine append_hd F N' ?_ (fun h' F1 N1 => h h' _ _ F1 N1 ?_ ?_) ?_
  · intro q hq
    rcases List.mem_append.mp hq with hq | hq
    · refine News.ne_cls N' (.tail _ (List.mem_append_left _ hq)) (.head _) ?_
      rcases List.mem_cons.mp hq with rfl | hq
      · exact hc
      · rw [htup _ hq]; exact hc
    · exact hpr _ hq
  · rw [Array.toList_push]
    exact (hlc.mono fun q hq => .tail _ hq).snoc (.head _)
  · intro q hq
    rcases List.mem_cons.mp hq with rfl | hq
    · rfl
    · exact htup _ hq
  · have := hlc.length
    rw [sizeLine_eq]
    simp only [Array.length_toList] at this
    omega
end
local macro_rules | `(tactic| walk_at "getMethod ref") => `(tactic| ((with_reducible show wpAny _ _ (getMethod (Value.ref _) (Str.ofString "group") _) _ _ _); refine mat_method (News.get (by assumption) (.head _)) slot_group type_group ?_))
local macro_rules | `(tactic| walk_at "truthy ref") => `(tactic| ((with_reducible show wpAny _ _ (truthy (Value.ref _)) _ _ _); refine match_truthy (News.get (by assumption) (.head _)) (by rfl) ?_))
local macro_rules | `(tactic| walk_at "callWith ref") => `(tactic| (refine callWith_st (by assumption) (by rfl) ?_))
theorem rs_val {v : List Nat} (hv : v ∈ [[55], [126, 39]]) : Txt.rstrip (T v) = T v := by
  simp only [List.mem_cons, List.not_mem_nil, or_false] at hv
  rcases hv with rfl | rfl <;> decide +kernel
abbrev spEnv (L : Addr) : Env := envOf (nameOf (stm 11)) (scopeOf (stm 11)) L 84 (.ref 83)
set_option maxHeartbeats 4000000 in
theorem sp_turn {w : World} {A : Around} {s : Shared} {h₀ h₁ : Heap} {mg mb : Map} {L p r hv : Addr} {rest : Led} {cs : List Card} {n tk₁ : Nat} {m₁ : Map} {news₁ : Led} {Q : Shared → Prop} {E : Value → Shared → Prop}
    (S : Stat mg mb h₀) (PT : Pats h₀) (hd : A.depth + 5 < recursionLimit) (hh : A.handled = none) (hpr : ∀ q ∈ rest, q.1 ≠ p)
    (F : Fr h₀ L h₁ m₁) (N : News h₀ L h₁ news₁) (J : SJ p r hv rest cs n m₁ news₁)
    (hq : ∀ h' tk' m' its k tups, Fr h₀ L h' m' → News h₀ L h' ((p, lst its k) :: (tups ++ rest)) → Kn m' [(Str.ofString "pairs", .ref p), (Str.ofString "result", .ref r), (Str.ofString "header_values", .ref hv)] → LCards tups its.toList cs → (∀ q ∈ tups, q.2.cls = .type "tuple") → Q { s with heap := h', toks := tk' }) :
    wpAny (model pw w) A (isTrue spTest (spEnv L) (eval spTest (spEnv L))) (fun b s₂ =>
        if b = true then wpAny (model pw w) A (execs spBody (spEnv L)) (WhileStep h₀ L s (SJ p r hv rest cs) n) E s₂ else Q s₂) E { s with heap := h₁, toks := tk₁ } := by
  obtain ⟨l, csL, csR, its, k, tups, t, rfl, hr, rfl, hl, hll, hkn, rfl, hlc, htup⟩ := J
  have F' := Fr.kn F hkn
  dsimp only [over] at F'
  obtain ⟨te, hte⟩ : ∃ e, e = spTest := ⟨_, rfl⟩
  obtain ⟨bd, hbd⟩ : ∃ e, e = spBody := ⟨_, rfl⟩
  rw [← hte, ← hbd]
  conv at hte => rhs; whnf
  conv at hbd => rhs; whnf
  subst hte hbd
  have hTl : (T l).length ≤ 300 := by rw [T_len]; exact hl
  walk1
  walk1
  refine SBL.truthy (by omega) ?_
  cases hr with
  | done =>
    rw [show (((T []).length : Int) != 0) = false by decide, if_neg (by decide)]
    rw [List.append_nil] at hq
    obtain ⟨h1, h2, h3, h4, -⟩ := hkn
    exact hq _ _ _ its k tups F N ⟨h2, h3, h4, trivial⟩ hlc htup
  | @junk j l _ h1 h2 h3 h4 h5 =>
    have hjl : 0 < (j ++ l).length := by rw [List.length_append]; omega
    have hj0 : (j ++ l).getD 0 0 = 59 := by rw [getD_left h1]; exact h3
    rw [T_ne hjl, if_pos rfl]
    have hlj := hl
    have hTl' : (T (j ++ l)).length ≤ 300 := hTl
    repeat' walk1
    refine tok_miss PT (by assumption) hjl hlj hj0 ?_
    iterate 16 walk1
    rw [lstrip_59 hj0]
    iterate 6 walk1
    rw [sw_59 hj0]
    repeat' walk1
    rw [show Str.ofString "" = (⟨#[]⟩ : Str) by decide]
    refine twin_subn PT (by assumption) (by assumption) h1 h2 hlj h4 ?_
    intro h' V tk t1 t2 F1 N1
    repeat' walk1
    rename_i F9 N9
    exact WhileStep.intro (n' := l.length) F9 (fun q hq => N9 q (.tail _ hq)) (by rw [List.length_append]; omega) ⟨l, csL, csR, its, k, tups, t1, rfl, h5, rfl, by rw [List.length_append] at hlj; omega, by rw [List.length_append] at hll; omega, ⟨rfl, rfl, rfl, rfl, trivial⟩, rfl, hlc, htup⟩
  | @bare a l cs' h1 h2 h3 h4 =>
    have hjl : 0 < (a ++ l).length := by rw [List.length_append]; omega
    have hll' : l.length ≤ 300 := by rw [List.length_append] at hl; omega
    have hl0 : 0 < l.length := by
      cases l with
      | nil => simp at h3
      | cons => simp
    rw [T_ne hjl, if_pos rfl]
    have hlj := hl
    have hTl' : (T (a ++ l)).length ≤ 300 := hTl
    repeat' walk1
    refine tok_hit PT (by assumption) (by assumption) h1 h2 hlj (by rw [h3]; exact .head _) ?_
    intro h' ma ta F1 N1
    repeat' walk1
    refine unmatched_w S (by assumption) (by assumption) hd hh hlj (.head _) (.tail _ (.head _)) rfl ?_
    intro h2' tk2 t2 F2 N2
    repeat' walk1
    refine group_w (a := []) (c := a) (l := l) (b := 0) (N := by assumption) hlj (.head _) (by rw [Nat.zero_add]; exact .tail _ (.head _)) rfl ?_
    repeat' walk1
    refine quo_miss PT (by assumption) hll' (.inl h3) ?_
    repeat' walk1
    refine val_miss PT (by assumption) hl0 hll' h3 ?_
    repeat' walk1
    refine sp_push (c := (T a, none)) (t2 := 0) (k := k) (by assumption) (by assumption) (.head _) (.tail _ (.tail _ (.tail _ (.head _)))) (fun q hq => .tail _ (.tail _ (.tail _ (.tail _ hq)))) htup hpr hlc (by omega) ?_
    intro h3' its' tups' F3 N3 hlc3 htup3
    repeat' walk1
    exact WhileStep.intro (n' := l.length) F3 N3 (by rw [List.length_append]; omega) ⟨l, csL ++ [(T a, none)], cs', its', _, tups', t2, rfl, h4, by simp, hll', by rw [List.length_append] at hll; simp; omega, ⟨rfl, rfl, rfl, rfl, trivial⟩, rfl, hlc3, htup3⟩
  | @val a v l cs' h1 h2 h3 h4 h5 =>
    have hjl : 0 < (a ++ 61 :: (v ++ l)).length := by rw [List.length_append]; omega
    have hlv : (61 :: (v ++ l)).length ≤ 300 := by rw [List.length_append] at hl; omega
    have hll' : l.length ≤ 300 := by simp at hlv; omega
    have hl0 : 0 < l.length := by
      cases l with
      | nil => simp at h4
      | cons => simp
    have hv0 : 0 < v.length ∧ v.length ≤ 2 ∧ v.getD 0 0 ∈ [55, 126] := by
      simp only [List.mem_cons, List.not_mem_nil, or_false] at h3
      rcases h3 with rfl | rfl <;> decide
    have hTv : (T v).length ≤ 300 := by rw [T_len]; omega
    rw [T_ne hjl, if_pos rfl]
    have hlj := hl
    have hTl' : (T (a ++ 61 :: (v ++ l))).length ≤ 300 := hTl
    repeat' walk1
    refine tok_hit PT (by assumption) (by assumption) h1 h2 hlj (.tail _ (.head _)) ?_
    intro h' ma ta F1 N1
    repeat' walk1
    refine unmatched_w S (by assumption) (by assumption) hd hh hlj (.head _) (.tail _ (.head _)) rfl ?_
    intro h2' tk2 t2 F2 N2
    repeat' walk1
    refine group_w (a := []) (c := a) (l := 61 :: (v ++ l)) (b := 0) (N := by assumption) hlj (.head _) (by rw [Nat.zero_add]; exact .tail _ (.head _)) rfl ?_
    repeat' walk1
    refine quo_miss PT (by assumption) hlv (.inr ⟨rfl, by show (v ++ l).getD 0 0 ∈ _; rw [getD_left hv0.1]; exact hv0.2.2⟩) ?_
    repeat' walk1
    refine val_hit PT (by assumption) (by assumption) h3 hlv h4 ?_
    intro h3' mc tb F3 N3
    repeat' walk1
    refine unmatched_w (a := 61 :: v) (l := l) S (by assumption) (by assumption) hd hh hlv (.head _) (.tail _ (.head _)) (Nat.add_comm _ _) ?_
    intro h4' tk4 t4 F4 N4
    repeat' walk1
    refine group_w (a := [61]) (c := v) (l := l) (b := 1) (N := by assumption) hlv (.head _) (.tail _ (.head _)) rfl ?_
    repeat' walk1
    rename_i F5 N5
    rw [rs_val h3] at N5
    have F6 := F5
    refine sp_push (c := (T a, some (T v))) (k := k) F6 N5 (.head _) (by simp) (fun q hq => by
      rcases List.mem_append.mp hq with hq | hq <;> simp [hq]) htup hpr hlc (by omega) ?_
    intro h6' its' tups' F7 N7 hlc7 htup7
    repeat' walk1
    exact WhileStep.intro (n' := l.length) F7 N7 (by simp; omega) ⟨l, csL ++ [(T a, some (T v))], cs', its', _, tups', t4, rfl, h5, by simp, hll', by simp at hll; simp; omega, ⟨rfl, rfl, rfl, rfl, trivial⟩, rfl, hlc7, htup7⟩
end Mine

namespace Mine
open Builtin.Re
set_option maxRecDepth 100000
theorem Reads.length {l : List Nat} {cs : List Card} (h : Reads l cs) : cs.length ≤ l.length := by
  induction h with
  | done => simp
  | junk _ _ _ _ _ ih => simp; omega
  | bare _ _ _ _ ih => simp; omega
  | val _ _ _ _ _ ih => simp; omega
inductive LPiles (n : Led) : List Value → List (List Card) → Prop
  | nil : LPiles n [] []
  | cons {b its k vs cs css} : (b, lst its k) ∈ n → LCards n its.toList cs → LPiles n vs css → LPiles n (.ref b :: vs) (cs :: css)
theorem LPiles.mono {n n' : Led} (h : ∀ p ∈ n, p ∈ n') {vs cs} (x : LPiles n vs cs) : LPiles n' vs cs := by
  induction x with
  | nil => exact .nil
  | cons a b _ ih => exact .cons (h _ a) (b.mono h) ih
theorem LPiles.snoc {n : Led} {vs css} {b its k cs} (x : LPiles n vs css) (h : (b, lst its k) ∈ n) (h2 : LCards n its.toList cs) : LPiles n (vs ++ [.ref b]) (css ++ [cs]) := by
  induction x with
  | nil => exact .cons h h2 .nil
  | cons a b _ ih => exact .cons a b ih
theorem LPiles.length {n : Led} {vs cs} (x : LPiles n vs cs) : vs.length = cs.length := by
  induction x with
  | nil => rfl
  | cons _ _ _ ih => simp [ih]
/-- a list of lists of cards, by the heap -/
inductive PilesAt (h : Heap) : List Value → List (List Card) → Prop
  | nil : PilesAt h [] []
  | cons {b its vs cs css} : h.IsList b its → CardsAt h its.toList cs → PilesAt h vs css → PilesAt h (.ref b :: vs) (cs :: css)
theorem LPiles.at {h₀ h : Heap} {L : Addr} {n : Led} (N : News h₀ L h n) {vs cs} (x : LPiles n vs cs) : PilesAt h vs cs := by
  induction x with
  | nil => exact .nil
  | cons a b _ ih => exact .cons (N.isList a) (b.at N) ih
local macro_rules | `(tactic| walk_at "eval Name") => `(tactic| first | (refine gname (by assumption) (by assumption) (by rfl) ?_) | (refine bname (by assumption) (by assumption) (by decide) (by first | exact bb_len | exact bb_isinstance | exact bb_str) ?_))
local macro_rules | `(tactic| walk_at "call builtin:isinstance") => `(tactic| (with_reducible show wpAny _ _ (call _ [Value.ref _, Value.type "str"]) _ _ _); refine IsiPair.list_str (o := ?o) ?hx ?hc ?_)
def SK2 (s : Shared) (hv r : Addr) (css : List (List Card)) (i : Nat) (m : Map) (n : Led) (g : Array GenState) : Prop :=
  g = s.gens ∧ ∃ rits rn tups, n = (r, lst rits rn) :: tups ∧ Kn m [(Str.ofString "header_values", .ref hv), (Str.ofString "result", .ref r)] ∧ LPiles tups rits.toList (css.take i) ∧ ∀ q ∈ tups, q.1 ≠ r
set_option maxHeartbeats 4000000 in
theorem split_call {w : World} {A : Around} {s : Shared} {mg mb : Map} {hv : Addr} {R : Result → Shared → Prop}
    (S : Stat mg mb s.heap) (PT : Pats s.heap) (hd : A.depth + 10 < recursionLimit) (hh : A.handled = none) {vs : List Value} {css : List (List Card)} (hvs : s.heap.IsList hv vs.toArray) (hlen : vs.length = css.length) (hln : css.length ≤ 300)
    (hts : ∀ (i : Nat) (v : Value), vs[i]? = some v → ∃ l t cs, v = .str (T l) t ∧ css[i]? = some cs ∧ Reads l cs ∧ cs ≠ [] ∧ l.length ≤ 300)
    (hR : ∀ h' tk r rits, (∀ b o, s.heap.get? b = some o → h'.get? b = some o) → h'.IsList r rits → PilesAt h' rits.toList css → R (.ok (.ret (.ref r))) { s with heap := h', toks := tk }) :
    codeAny (model pw w) A (.call (.ref 84) ⟨[.ref hv], []⟩) R s := by
  obtain ⟨o, pm, doc, h1, h2, h3⟩ := S.defs (84, 11, 83) (by decide)
  refine call_plain_ret (binds := [("header_values", .ref hv)]) (by omega) h1 h2 S.nolimit h3 rfl (locs rfl) ?_ rfl rfl rfl (by decide)
  intro h₁ F
  conv in (bodyOf (stm (84, 11, 83).2.1)) => whnf
  have N : News s.heap s.heap.objs.size h₁ [] := News.nil
  have hvs' : h₁.IsList hv vs.toArray := hvs.at fun o e => F.keep _ _ e
  have hh' : (A.deeper (spEnv s.heap.objs.size)).handled = none := hh
  have hd' : (A.deeper (spEnv s.heap.objs.size)).depth + 5 < recursionLimit := by show A.depth + 1 + 5 < _; omega
  have hv1 := hvs'
  obtain ⟨ov, ho1, ho2, -⟩ := hv1
  iterate 12 walk1
  refine IsiPair.list_str ho1 ho2 ?_
  repeat' walk1
  rename_i F2 N2
  refine for_frC (h₀ := s.heap) (l := hv) (vs := vs) (SK2 { s with heap := h₁ } hv h₁.objs.size css) hh' F2 N2 ?iter ?lst ?go ⟨rfl, #[], 0, [], rfl, ⟨rfl, rfl, trivial⟩, .nil, fun _ h => nomatch h⟩ ?turn ?done
  case iter => intro Q' h; exact ld F2 rfl h
  case lst => intro i m n g h _ F N; exact hvs.at fun o e => F.keep _ _ e
  case go =>
    intro I j i v s' E' hv hit Q' h
    exact wpAny_pure h
  case turn =>
    rintro I oI i v m n g h tk hv' ⟨rfl, rits, rn, tups, rfl, hkn, hlp, hne0⟩ F N hne hcI
    obtain ⟨l, t, cs, rfl, hcs, hrd, hcne, hll⟩ := hts i v hv'
    replace F := Fr.kn F hkn
    dsimp only [over] at F
    repeat' walk1
    rename_i hb Fb Nb hc Fc Nc hd1 Fd Nd
    have hpr : ∀ q ∈ (I, oI) :: (h₁.objs.size, lst rits rn) :: tups, q.1 ≠ hb.objs.size := fun q hq => Nat.ne_of_lt (Heap.lt_size (Nb q hq).1)
    refine While_inv (SJ hb.objs.size h₁.objs.size hv ((I, oI) :: (h₁.objs.size, lst rits rn) :: tups) cs) Fd Nd ⟨l, [], cs, #[], 0, [], t, rfl, hrd, rfl, hll, by simp; omega, ⟨rfl, rfl, rfl, rfl, trivial⟩, rfl, .nil, fun _ h => nomatch h⟩ ?_
    intro n2 m2 news2 h2' tk2 F2' N2' J2
    refine sp_turn S PT hd' hh' hpr F2' N2' J2 ?_
    intro h3' tk3 m3 its k tups3 F3 N3 hkn3 hlc3 htup3
    replace F3 := Fr.kn F3 hkn3
    dsimp only [over] at F3
    have hi3 : its.size = cs.length := by have := hlc3.length; simpa using this
    have hrl : rits.size ≤ 300 := by
      have := hlp.length
      simp only [Array.length_toList, List.length_take] at this
      omega
    iterate 4 walk1
    have hil : h3'.IsList hb.objs.size its := News.isList N3 (.head _)
    have hrdl := hrd.length
    have hfit : (its.size : Int) < 2 ^ 63 := by rw [hi3]; omega
    refine wpAny_truthy_list hil hfit ?_
    have : (!its.isEmpty) = true := by
      have : 0 < its.size := by rw [hi3]; exact List.length_pos_iff.mpr hcne
      simp; exact Array.ne_empty_of_size_pos this
    rw [this, if_pos rfl]
    have N4 : News s.heap s.heap.objs.size h3' ((h₁.objs.size, lst rits rn) :: ((hb.objs.size, lst its k) :: (I, oI) :: (tups3 ++ tups))) := by
      intro q hq
      refine N3 q ?_
      simp only [List.mem_cons, List.mem_append] at hq ⊢
      rcases hq with h | h | h | h | h <;> simp [h]
    have hneR : ∀ q ∈ (hb.objs.size, lst its k) :: (I, oI) :: (tups3 ++ tups), q.1 ≠ h₁.objs.size := by
      intro q hq
      simp only [List.mem_cons, List.mem_append] at hq
      rcases hq with rfl | rfl | hq | hq
      · exact Ne.symm (hpr _ (.tail _ (.head _)))
      · exact Ne.symm (hne _ (.head _))
      · exact News.ne_cls N4 (.tail _ (.tail _ (.tail _ (List.mem_append_left _ hq)))) (.head _) (by rw [htup3 _ hq]; show Value.type "tuple" ≠ Value.type "list"; decide)
      · exact hne0 _ hq
    clear N3
    iterate 9 walk1
    refine append_hd F3 N4 hneR (fun h5' F5 N5 => ?_) (by rw [sizeLine_eq]; omega)
    iterate 2 walk1
    refine ⟨h5', _, s.gens, _, (h₁.objs.size, lst (rits.push (.ref hb.objs.size)) (rn + 1)) :: (hb.objs.size, lst its k) :: (tups3 ++ tups), rfl, F5, ?_, ?_, ⟨rfl, _, _, _, rfl, ⟨rfl, rfl, trivial⟩, ?_, ?_⟩⟩
    · intro q hq
      refine N5 q ?_
      simp only [List.mem_cons, List.mem_append] at hq ⊢
      rcases hq with h | h | h | h | h <;> simp [h]
    · intro q hq
      simp only [List.mem_cons, List.mem_append] at hq
      rcases hq with rfl | rfl | hq | hq
      · exact hne (_, lst rits rn) (.head _)
      · exact Ne.symm (hpr _ (.head _))
      · exact News.ne_cls N4 (.tail _ (.tail _ (.tail _ (List.mem_append_left _ hq)))) (.tail _ (.tail _ (.head _))) (by rw [htup3 _ hq, hcI]; decide)
      · exact hne _ (.tail _ hq)
    · rw [Array.toList_push, List.take_add_one, hcs]
      exact (hlp.mono fun q hq => by simp [hq]).snoc (.head _) (hlc3.mono fun q hq => by simp [hq])
    · intro q hq
      simp only [List.mem_cons, List.mem_append] at hq
      rcases hq with rfl | hq | hq
      · exact hneR _ (.head _)
      · exact hneR _ (by simp [hq])
      · exact hneR _ (by simp [hq])
  case done =>
    rintro m n g h tk ⟨rfl, rits, rn, tups, rfl, hkn, hlp, hne0⟩ F N
    replace F := Fr.kn F hkn
    dsimp only [over] at F
    rw [hlen, List.take_length] at hlp
    repeat' walk1
    exact hR _ _ _ _ F.keep (News.isList N (.head _)) (hlp.at fun q hq => N q (.tail _ hq))
end Mine

namespace Mine
open Builtin.Re
set_option maxRecDepth 100000
/-- a step kept for the hand -/
def Hold (p : Prop) : Prop := p
theorem Hold.intro {p : Prop} (h : Hold p) : p := h
local macro_rules | `(tactic| walk_at "call builtin:list.append") => `(tactic| refine Hold.intro ?_)
/-- what join makes of a card -/
def cardJ (c : Card) : Str := match c.2 with
  | none => c.1
  | some v => c.1 ++ Str.ofString "=" ++ v
theorem empty_app (x : Str) : Str.empty ++ x = x := by
  show (⟨#[] ++ x.cps⟩ : Str) = x
  simp
def GoodV (c : Card) : Prop := c.1.length ≤ 3 ∧ ∀ v, c.2 = some v → v.cps ∈ [#[55], #[126, 39]]
local macro_rules | `(tactic| walk_at "eval Name") => `(tactic| (refine gname (by assumption) (by assumption) (by rfl) ?_))
local macro_rules | `(tactic| walk_at "assign Tuple") => `(tactic| (with_reducible show wpAny _ _ (assign (Expr.Tuple _ _ _) _ (Value.ref _)) _ _ _); refine unpackN_ (by assumption) (by assumption) (by assumption) (by assumption) rfl rfl ?_; intro _ _ _)
local macro_rules | `(tactic| walk_at "getMethod ref") => `(tactic| ((with_reducible show wpAny _ _ (getMethod (Value.ref _) (Str.ofString "fullmatch") _) _ _ _); refine pat_method ((Pats.join (by assumption)).keeps (Fr.keep (by assumption))) slot_full type_full ?_))
local macro_rules | `(tactic| walk_at "truthy ref") => `(tactic| ((with_reducible show wpAny _ _ (truthy (Value.ref _)) _ _ _); refine match_truthy (News.get (by assumption) (.head _)) (by assumption) ?_))
abbrev jnEnv (L : Addr) : Env := envOf (nameOf (stm 14)) (scopeOf (stm 14)) L 101 (.ref 100)
theorem append_sel {w : World} {A : Around} {E : Value → Shared → Prop} {s : Shared} {h₀ : Heap} {L D : Addr} {m : Map} {its : Array Value} {n : Nat} {v : Value} {news : Led} {Q : Value → Shared → Prop} (post : Led)
    (F : Fr h₀ L s.heap m) (N : News h₀ L s.heap news) (hD : (D, lst its n) ∈ news) (hsub : ∀ p ∈ post, p ∈ news) (hne : ∀ p ∈ post, p.1 ≠ D) (hsz : its.size ≤ 1000)
    (h : ∀ h', Fr h₀ L h' m → News h₀ L h' ((D, lst (its.push v) (n + 1)) :: post) → Q .none { s with heap := h' }) :
    wpAny (model pw w) A (call (.builtin "list.append") [.ref D, v]) Q E s :=
  append_hd F (fun q hq => by rcases List.mem_cons.mp hq with rfl | hq; exact N _ hD; exact N _ (hsub _ hq)) hne h (by rw [sizeLine_eq]; omega)
theorem cardJ_len {c : Card} (h : GoodV c) : (cardJ c).length ≤ 6 := by
  obtain ⟨k, v⟩ := c
  obtain ⟨h1, h2⟩ := h
  cases v with
  | none => dsimp only at h1; simp only [cardJ]; omega
  | some v =>
    have hv := h2 v rfl
    have hvl : v.length ≤ 2 := by
      simp only [List.mem_cons, List.not_mem_nil, or_false] at hv
      unfold Str.length
      rcases hv with e | e <;> rw [e] <;> decide
    have heq1 : (Str.ofString "=").length = 1 := by decide
    dsimp only at h1
    simp only [cardJ, Str.length_append, heq1]
    omega
theorem cards_join {cs : List Card} (hg : ∀ c ∈ cs, GoodV c) (hl : cs.length ≤ 30) : ((cs.map cardJ).map (·.length)).sum + (cs.map cardJ).length * 64 ≤ 16777216 := by
  refine join_ok (fun y hy => ?_) (by simp; omega)
  obtain ⟨c, hc, rfl⟩ := List.mem_map.mp hy
  have := cardJ_len (hg c hc)
  omega
def JK (s : Shared) (hd : Addr) (J : Str) (i : Nat) (m : Map) (n : Led) (g : Array GenState) : Prop :=
  g = s.gens ∧ ∃ hits hn, n = [(hd, lst hits hn)] ∧ Kn m [(Str.ofString "headers", .ref hd)] ∧ StrsAre hits.toList (if i = 0 then [] else [J])
def JI (s : Shared) (a hd I : Addr) (oI oh : Obj) (cs : List Card) (j : Nat) (m : Map) (n : Led) (g : Array GenState) : Prop :=
  g = s.gens ∧ ∃ its k, n = [(a, lst its k), (I, oI), (hd, oh)] ∧ Kn m [(Str.ofString "attr", .ref a), (Str.ofString "headers", .ref hd)] ∧ StrsAre its.toList ((cs.take j).map cardJ)
theorem ji_end {s0 s1 : Shared} {h₀ h5 : Heap} {L a hd I I2 : Addr} {oI oI2 oh : Obj} {cs : List Card} {j k tk : Nat} {m : Map} {its : Array Value} {y : Str} {t : Tok} (hg : s1.gens = s0.gens) (F5 : Fr h₀ L h5 m) (N5 : News h₀ L h5 ((a, lst (its.push (.str y t)) (k + 1)) :: [(I2, oI2), (I, oI), (hd, oh)]))
    (hne2 : ∀ p ∈ [(a, lst its k), (I, oI), (hd, oh)], p.1 ≠ I2) (hkn : Kn m [(Str.ofString "attr", .ref a), (Str.ofString "headers", .ref hd)]) (hstr : StrsAre (its.push (.str y t)).toList ((cs.take (j + 1)).map cardJ)) :
    TurnEnd h₀ L (JI s0 a hd I oI oh cs (j + 1)) I2 oI2 s1 { s1 with heap := h5, toks := tk } := by
  refine ⟨h5, tk, s0.gens, m, [(a, lst (its.push (.str y t)) (k + 1)), (I, oI), (hd, oh)], by rw [← hg], F5, fun q hq => N5 q ?_, fun q hq => ?_, rfl, _, _, rfl, hkn, hstr⟩
  · simp only [List.mem_cons, List.not_mem_nil, or_false] at hq ⊢
    rcases hq with h | h | h | h <;> simp [h]
  · simp only [List.mem_cons, List.not_mem_nil, or_false] at hq
    rcases hq with rfl | hq | hq
    · exact hne2 (_, lst its k) (.head _)
    · exact hne2 _ (by simp [hq])
    · exact hne2 _ (by simp [hq])
set_option maxHeartbeats 4000000 in
theorem join_call {w : World} {A : Around} {s : Shared} {mg mb : Map} {la ra : Addr} {rvs : List Value} {cs : List Card} {R : Result → Shared → Prop}
    (S : Stat mg mb s.heap) (PT : Pats s.heap) (hd : A.depth + 10 < recursionLimit) (hh : A.handled = none) (hla : s.heap.IsList la #[.ref ra]) (hra : s.heap.IsList ra rvs.toArray) (hcs : CardsAt s.heap rvs cs) (hg : ∀ c ∈ cs, GoodV c) (hne : cs ≠ []) (hlen : cs.length ≤ 30)
    (hR : ∀ h' tk t, (∀ b o, s.heap.get? b = some o → h'.get? b = some o) → R (.ok (.ret (.str (Txt.join (Str.ofString "; ") (cs.map cardJ)) t))) { s with heap := h', toks := tk }) :
    codeAny (model pw w) A (.call (.ref 101) ⟨[.ref la], []⟩) R s := by
  obtain ⟨o, pm, doc, h1, h2, h3⟩ := S.defs (101, 14, 100) (by decide)
  refine call_plain_ret (binds := [("lists", .ref la)]) (by omega) h1 h2 S.nolimit h3 rfl (locs rfl) ?_ rfl rfl rfl (by decide)
  intro h₁ F
  conv in (bodyOf (stm (101, 14, 100).2.1)) => whnf
  have N : News s.heap s.heap.objs.size h₁ [] := News.nil
  have hh' : (A.deeper (jnEnv s.heap.objs.size)).handled = none := hh
  have hd' : (A.deeper (jnEnv s.heap.objs.size)).depth + 5 < recursionLimit := by show A.depth + 1 + 5 < _; omega
  repeat' walk1
  rename_i ha Fa Na hb Fb Nb
  have hne1 : ∀ q ∈ [(h₁.objs.size, lst #[] 0)], q.1 = h₁.objs.size := by simp
  refine for_frC (h₀ := s.heap) (l := la) (vs := [.ref ra]) (JK { s with heap := h₁ } h₁.objs.size (Txt.join (Str.ofString "; ") (cs.map cardJ))) hh' Fb Nb ?iter ?lst ?go ⟨rfl, #[], 0, rfl, ⟨rfl, trivial⟩, .nil⟩ ?turn ?done
  case iter => intro Q' h; exact ld Fb rfl h
  case lst => intro i m n g h _ F N; exact hla.at fun o e => F.keep _ _ e
  case go =>
    intro I j i v s' E' hv hit Q' h
    exact wpAny_pure h
  case turn =>
    rintro I oI i v m n g h tk hv' ⟨rfl, hits, hn, rfl, hkn, hst⟩ F N hne0 hcI
    obtain ⟨rfl, rfl⟩ : i = 0 ∧ v = .ref ra := by
      cases i with
      | zero => simp at hv'; exact ⟨rfl, hv'.symm⟩
      | succ i => simp at hv'
    replace F := Fr.kn F hkn
    dsimp only [over] at F
    repeat' walk1
    rename_i hc Fc Nc hd1 Fd Nd he Fe Ng
    have hca : hc.objs.size ≠ I ∧ hc.objs.size ≠ h₁.objs.size := ⟨Nat.ne_of_gt (Heap.lt_size (Nc _ (.head _)).1), Nat.ne_of_gt (Heap.lt_size (Nc _ (.tail _ (.head _))).1)⟩
    refine for_frC (h₀ := s.heap) (l := ra) (vs := rvs) (JI { s with heap := h₁ } hc.objs.size h₁.objs.size I oI (lst hits hn) cs) hh' Fe Ng ?iter2 ?lst2 ?go2 ⟨rfl, #[], 0, rfl, ⟨rfl, rfl, trivial⟩, .nil⟩ ?turn2 ?done2
    case iter2 => intro Q' h; exact ld Fe rfl h
    case lst2 => intro i m n g h _ F N; exact hra.at fun o e => F.keep _ _ e
    case go2 =>
      intro I j i v s' E' hv hit Q' h
      obtain ⟨c, hc, a, t, t', rfl, htup⟩ := hcs.get hv
      exact wpAny_letOwnedTupleGo_listiter hit h
    case turn2 =>
      rintro I2 oI2 j v m n g h tk hv ⟨rfl, its, k, rfl, hkn, hstr⟩ F N hne2 hcI2
      replace F := Fr.kn F hkn
      obtain ⟨⟨key, val⟩, hc0, a, tk1, tk2, rfl, htup⟩ := hcs.get hv
      obtain ⟨hk3, hval⟩ := hg _ (List.mem_of_getElem? hc0)
      have htup' : IsTup h a #[.str key tk1, optV val tk2] := htup.keeps F.keep
      dsimp only [over] at F
      dsimp only at hk3 hval
      have hits30 : its.size ≤ 30 := by
        have := hstr.length
        simp at this
        omega
      have hnx : ∀ q ∈ [(I2, oI2), (I, oI), (h₁.objs.size, lst hits hn)], q.1 ≠ hc.objs.size := by
        intro q hq
        simp only [List.mem_cons, List.not_mem_nil, or_false] at hq
        rcases hq with rfl | rfl | rfl
        · exact Ne.symm (hne2 _ (.head _))
        · exact Ne.symm hca.1
        · exact Ne.symm hca.2
      have hsn : (cs.take (j + 1)).map cardJ = (cs.take j).map cardJ ++ [cardJ (key, val)] := by
        rw [List.take_add_one, hc0]; simp
      clear htup
      cases val with
      | none =>
        dsimp only [optV] at htup'
        repeat' walk1
        rename_i Fx Nx
        refine append_sel [(I2, oI2), (I, oI), (h₁.objs.size, lst hits hn)] Fx Nx (.tail _ (.head _)) (by intro p hp; simp only [List.mem_cons, List.not_mem_nil, or_false] at hp; rcases hp with rfl | rfl | rfl <;> simp) hnx (by omega) fun h5 F5 N5 => ?_
        repeat' walk1
        exact ji_end (its := its) (k := k) rfl F5 N5 hne2 ⟨rfl, rfl, trivial⟩ (by rw [Array.toList_push, hsn]; exact StrsAre.snoc hstr _ _)
      | some val =>
        have hv2 := hval val rfl
        have hvl : val.length ≤ 2 := by
          simp only [List.mem_cons, List.not_mem_nil, or_false] at hv2
          unfold Str.length
          rcases hv2 with e | e <;> rw [e] <;> decide
        have hel : Str.empty.length = 0 := by decide
        have heq1 : (Str.ofString "=").length = 1 := by decide
        dsimp only [optV] at htup'
        repeat' walk1
        refine full_hit (by assumption) (by assumption) PT.join hv2 ?_
        intro h5 ma o5 F5 N5 hc5
        repeat' walk1
        · rw [sizeLine_eq, Str.length_append]; omega
        rename_i Fx Nx
        refine append_sel [(I2, oI2), (I, oI), (h₁.objs.size, lst hits hn)] Fx Nx (.tail _ (.tail _ (.head _))) (by intro p hp; simp only [List.mem_cons, List.not_mem_nil, or_false] at hp; rcases hp with rfl | rfl | rfl <;> simp) hnx (by omega) fun h5 F5 N5 => ?_
        repeat' walk1
        exact ji_end (its := its) (k := k) rfl F5 N5 hne2 ⟨rfl, rfl, trivial⟩ (by rw [Array.toList_push, hsn, show cardJ (key, some val) = Str.empty ++ key ++ Str.ofString "=" ++ val by simp only [cardJ, empty_app]]; exact StrsAre.snoc hstr _ _)
    case done2 =>
      rintro m n g h tk ⟨rfl, its, k, rfl, hkn, hstr⟩ F N
      replace F := Fr.kn F hkn
      dsimp only [over] at F
      rw [hcs.length, List.take_length] at hstr
      have hil : h.IsList hc.objs.size its := News.isList N (.head _)
      have hsz : its.size = cs.length := by
        have := hstr.length
        simpa using this
      iterate 4 walk1
      have hfit : (its.size : Int) < 2 ^ 63 := by rw [hsz]; omega
      refine wpAny_truthy_list hil hfit ?_
      have hemp : (!its.isEmpty) = true := by
        have : 0 < its.size := by rw [hsz]; exact List.length_pos_iff.mpr hne
        simp; exact Array.ne_empty_of_size_pos this
      rw [hemp, if_pos rfl]
      repeat' walk1
      refine join_listC hil hstr (by decide) (cards_join hg hlen) fun t' k' => ?_
      repeat' walk1
      refine append_sel (its := hits) [(I, oI)] F N (.tail _ (.tail _ (.head _))) (by intro p hp; rw [List.mem_singleton.mp hp]; exact .tail _ (.head _)) (by intro p hp; rw [List.mem_singleton.mp hp]; exact Ne.symm (hne0 _ (.head _))) (by
        have := hst.length
        simp at this
        simp [this]) fun h5 F5 N5 => ?_
      repeat' walk1
      exact ⟨h5, _, s.gens, _, [(h₁.objs.size, lst (hits.push (.str (Txt.join (Str.ofString "; ") (cs.map cardJ)) t')) (hn + 1))], rfl, F5, (fun q hq => N5 q (by simp at hq ⊢; rcases hq with h | h <;> simp [h])), (fun q hq => by rw [List.mem_singleton.mp hq]; exact hne0 (_, lst hits hn) (.head _)), rfl, _, _, rfl, ⟨rfl, trivial⟩, by rw [Array.toList_push]; exact StrsAre.snoc hst _ _⟩
  case done =>
    rintro m n g h tk ⟨rfl, hits, hn, rfl, hkn, hst⟩ F N
    replace F := Fr.kn F hkn
    dsimp only [over] at F
    repeat' walk1
    have hJ := cards_join hg hlen
    have hJl : (Txt.join (Str.ofString "; ") (cs.map cardJ)).length ≤ 16777000 := by
      show (Builtin.Str.glued _ _).length ≤ _
      rw [size_glued, show (Str.ofString "; ").length = 2 by decide]
      have : ((cs.map cardJ).map (·.length)).sum ≤ 6 * (cs.map cardJ).length := sum_le fun y hy => by
        obtain ⟨c, hc, rfl⟩ := List.mem_map.mp hy
        exact cardJ_len (hg c hc)
      simp only [List.length_map] at this ⊢
      omega
    refine join_listC (News.isList N (.head _)) hst (by decide) ?_ fun t' k' => ?_
    · simp; omega
    · have e : Txt.join (Str.ofString ", ") [Txt.join (Str.ofString "; ") (cs.map cardJ)] = Txt.join (Str.ofString "; ") (cs.map cardJ) := by
        show Builtin.Str.glued _ [_] = _
        simp [Builtin.Str.glued]
      have hif : (if [Value.ref ra].length = 0 then [] else [Txt.join (Str.ofString "; ") (cs.map cardJ)]) = [Txt.join (Str.ofString "; ") (cs.map cardJ)] := rfl
      rw [hif, e]
      exact hR _ _ _ F.keep
end Mine

namespace Mine
set_option maxRecDepth 100000
def sqFront (x : Str) : Str := if Txt.startswith x (Str.ofString "\"") = true then Txt.slice x (some (1 : Int)) none else x
def sqBack (x : Str) : Str := if Txt.endswith x (Str.ofString "\"") = true then Txt.slice x none (some (-1 : Int)) else x
def sqV (x : Str) : Str := sqBack (sqFront x)
set_option maxHeartbeats 4000000 in
theorem sq_call {w : World} {A : Around} {s : Shared} {mg mb : Map} {x : Str} {t : Tok} {R : Result → Shared → Prop}
    (S : Stat mg mb s.heap) (hd : A.depth + 5 < recursionLimit) (hh : A.handled = none) (hx : x.length ≤ 300)
    (hR : ∀ h' tk t', (∀ b o, s.heap.get? b = some o → h'.get? b = some o) → R (.ok (.ret (.str (sqV x) t'))) { s with heap := h', toks := tk }) :
    codeAny (model pw w) A (.call (.ref 108) ⟨[.str x t], []⟩) R s := by
  obtain ⟨o, pm, doc, h1, h2, h3⟩ := S.defs (108, 15, 107) (by decide)
  refine call_plain_ret (binds := [("text", .str x t)]) (by omega) h1 h2 S.nolimit h3 rfl (locs rfl) ?_ rfl rfl rfl (by decide)
  intro h₁ F
  conv in (bodyOf (stm (108, 15, 107).2.1)) => whnf
  have N : News s.heap s.heap.objs.size h₁ [] := News.nil
  repeat' walk1
  · have e : sqV x = Txt.slice (Txt.slice x (some 1) none) none (some (-1)) := by unfold sqV sqBack sqFront; simp only [*, if_true]
    rw [← e]; exact hR _ _ _ (Fr.keep (by assumption))
  · have e : sqV x = Txt.slice x (some 1) none := by unfold sqV sqBack sqFront; simp only [*, if_true, if_false, Bool.false_eq_true]
    rw [← e]; exact hR _ _ _ (Fr.keep (by assumption))
  · have e : sqV x = Txt.slice x none (some (-1)) := by unfold sqV sqBack sqFront; simp only [*, if_true, if_false, Bool.false_eq_true]
    rw [← e]; exact hR _ _ _ (Fr.keep (by assumption))
  · have e : sqV x = x := by unfold sqV sqBack sqFront; simp only [*, if_false, Bool.false_eq_true]
    rw [← e]; exact hR _ _ _ (Fr.keep (by assumption))
end Mine

namespace Mine
abbrev rio (x left step : Int) : Obj := { cls := .type "range_iterator", dict := none, data := .fields #[rawInt x, rawInt left, rawInt step], slots := #[] }
theorem for_range {w : World} {A : Around} {E : Value → Shared → Prop} {s : Shared} {env : Env} {target iter : Expr} {body : List Stmt} {pos : Pos} {Q : Flow → Shared → Prop} {h₀ : Heap} {L : Addr} {m : Map} {news : Led} {n : Nat}
    (K : Nat → Map → Led → Array GenState → Prop) (hh : A.handled = none) (hF0 : Fr h₀ L s.heap m) (hN0 : News h₀ L s.heap news)
    (hn : n ≤ 1000) (hiter : wpAny (model pw w) A (eval iter env) (fun v s₁ => ∃ r t u x h₁ tk₁, v = .ref r ∧ s₁ = { s with heap := h₁, toks := tk₁ } ∧ IsRange h₁ r 0 (n : Int) 1 t u x ∧ Fr h₀ L h₁ m ∧ News h₀ L h₁ news) E s)
    (hgo : ∀ (I : Addr) (v : Value) (s' : Shared) (E' : Value → Shared → Prop), ∀ Q' : Unit → Shared → Prop, Q' () s' → wpAny (model pw w) A (letOwnedTupleGo target (.ref I) v) Q' E' s')
    (k0 : K 0 m news s.gens)
    (turn : ∀ (I : Addr) (oI : Obj) (i : Nat) (t : Tok) m₁ n₁ g h tk, i < n → K i m₁ n₁ g → Fr h₀ L h m₁ → News h₀ L h ((I, oI) :: n₁) → (∀ p ∈ n₁, p.1 ≠ I) → oI.cls = .type "range_iterator" →
      wpAny (model pw w) A (assign target env (.int (i : Int) t)) (fun _ s₂ => wpAny (model pw w) A (execs body env) (fun f s₃ => match f with
        | .next | .cont => TurnEnd h₀ L (K (i + 1)) I oI s s₃
        | .brk => Q .next s₃
        | .ret v => Q (.ret v) s₃) E s₂) E { s with heap := h, toks := tk, gens := g })
    (done : ∀ m' n' g' h' tk', K n m' n' g' → Fr h₀ L h' m' → News h₀ L h' n' → Q .next { s with heap := h', toks := tk', gens := g' })
    (hs : ∀ x, foldedSetIterable iter env x = pure x := by intro _; rfl)
    (hE : PassesOwn (model pw w) A env E := by passes_own) :
    wpAny (model pw w) A (exec (.For target iter body [] pos) env) Q E s := by
  refine wpAny_For (wpAny_mono hiter (fun v s₁ q => ?_) fun _ _ e => e) hs
  obtain ⟨r, t, u, x, h₁, tk₁, rfl, rfl, hr, F, N⟩ := q
  have hrs : Builtin.Range.rangeSize 0 (n : Int) 1 = (n : Int) := by rw [rangeSize_one]; split <;> omega
  refine wpAny_pyIter_range hr (small_one (by omega) (by omega) (by omega) (by omega)) ?_
  rw [hrs]
  generalize hI : h₁.objs.size = I
  have hnI : h₀.get? I = none := by
    cases q : h₀.get? I with
    | none => rfl
    | some o => exact absurd (Heap.lt_size (F.keep _ _ q)) (by rw [hI]; exact Nat.lt_irrefl _)
  have hIL : I ≠ L := by
    obtain ⟨oL, _, _, hL, _⟩ := F.ns
    exact Nat.ne_of_gt (hI ▸ Heap.lt_size hL)
  refine codeAny_forLoop_any (fun k s' => ∃ h' tk' g' m' n' i, s' = { s with heap := h', toks := tk', gens := g' } ∧ IsRangeIter h' I ((i : Nat) : Int) ((n : Int) - i) 1 ∧ Fr h₀ L h' m' ∧ News h₀ L h' n' ∧ (∀ p ∈ n', p.1 ≠ I) ∧ K i m' n' g' ∧ i ≤ n ∧ k = n + 1 - i) ?_ (n + 1)
    ⟨_, tk₁, s.gens, m, news, 0, rfl, (by rw [← hI]; exact Heap.get?_push_size _ rfl), F.push _, fun p hp => ⟨Heap.get?_push_of_some _ (N p hp).1, (N p hp).2⟩, (fun p hp => Nat.ne_of_lt (hI ▸ Heap.lt_size (N p hp).1)), k0, Nat.zero_le _, rfl⟩
  rintro k s' ⟨h', tk', g', m', n', i, rfl, hit, F', N', hne, hK, hi, rfl⟩
  by_cases hlt : i < n
  · refine wpAny_pyNext_range_item hit (by omega) fun h₁ hit₁ hs₁ => ?_
    have F₁ : Fr h₀ L h₁ m' := F'.change hs₁ hIL hnI
    have N₁ : News h₀ L h₁ ((I, rio ((i : Int) + 1) ((n : Int) - i - 1) 1) :: n') := news_cons.mpr ⟨⟨hit₁, hIL, hnI⟩, fun p hp => ⟨(hs₁.2 p.1 (hne p hp)).trans (N' p hp).1, (N' p hp).2⟩⟩
    refine hgo I _ { s with heap := h₁, toks := tk' + 1, gens := g' } _ _ ?_
    refine wpAny_passesOwn hE (wpAny_mono (turn I (rio ((i : Int) + 1) ((n : Int) - i - 1) 1) i _ m' n' g' h₁ (tk' + 1) hlt hK F₁ N₁ hne rfl) (fun _ s₂ h₂ => wpAny_passesOwn hE (wpAny_mono h₂ (fun f s₃ h₃ => ?_) fun _ _ e => e)) fun _ _ e => e)
    have fin : TurnEnd h₀ L (K (i + 1)) I (rio ((i : Int) + 1) ((n : Int) - i - 1) 1) s s₃ → ∃ k', k' < n + 1 - i ∧ ∃ h' tk' g' m' n' j, s₃ = { s with heap := h', toks := tk', gens := g' } ∧ IsRangeIter h' I ((j : Nat) : Int) ((n : Int) - j) 1 ∧ Fr h₀ L h' m' ∧ News h₀ L h' n' ∧ (∀ p ∈ n', p.1 ≠ I) ∧ K j m' n' g' ∧ j ≤ n ∧ k' = n + 1 - j := by
      rintro ⟨h2, tk2, g2, m2, n2, e, F2, N2, hne2, hK2⟩
      obtain ⟨a, b⟩ := news_cons.mp N2
      refine ⟨n + 1 - (i + 1), by omega, h2, tk2, g2, m2, n2, i + 1, e, ?_, F2, b, hne2, hK2, hlt, rfl⟩
      have e1 : ((i + 1 : Nat) : Int) = (i : Int) + 1 := by omega
      have e2 : (n : Int) - ((i + 1 : Nat) : Int) = (n : Int) - i - 1 := by omega
      rw [e2, e1]
      exact a.1
    cases f with
    | ret v => exact h₃
    | brk => exact h₃
    | next => exact fin h₃
    | cont => exact fin h₃
  · have hin : i = n := by omega
    subst hin
    refine wpAny_pyNext_range_end hh hit (by omega) fun h₁ he₁ => wpAny_execs_nil ?_
    have F₁ : Fr h₀ L h₁ m' := ⟨F'.ns.extBut he₁ (Ne.symm hIL), fun b o e => he₁ b o (by rintro rfl; rw [hnI] at e; cases e) (F'.keep b o e), F'.above⟩
    exact done m' n' g' h₁ tk' hK F₁ fun p hp => ⟨he₁ _ _ (hne p hp) (N' p hp).1, (N' p hp).2⟩
end Mine

namespace Mine
set_option maxRecDepth 100000
def letters : List Nat := [97, 66, 99, 100, 69, 102, 103, 104, 105]
def sufs : List (List Nat) := [[], [92, 34], [92, 92], [40], [39, 92]]
def valsL : List (Option Str) := [none, some (T [55]), some (T [126, 39])]
/-- a deck's k-th card -/
def CardK (k : Nat) (c : Card) : Prop := ∃ s ∈ sufs, c.1 = T (letters.getD k 0 :: s) ∧ c.2 ∈ valsL
def DeckOk (n : Nat) (cs : List Card) : Prop := cs.length = n ∧ ∀ k c, cs[k]? = some c → CardK k c
def manyOf (ns : List Int) : Nat := 5 + ns.length / 2 % 3 * 2
local macro_rules | `(tactic| walk_at "call builtin:list.append") => `(tactic| refine Hold.intro ?_)
local macro_rules | `(tactic| walk_at "eval Name") => `(tactic| first | (refine gname (by assumption) (by assumption) (by rfl) ?_) | (refine bname (by assumption) (by assumption) (by decide) (by first | exact bb_len | exact bb_sum | exact bb_range) ?_))
local macro_rules | `(tactic| walk_at "call type:range") => `(tactic| refine Hold.intro ?_)
local macro_rules | `(tactic| walk_at "subscriptTail") => `(tactic| ((with_reducible show wpAny _ _ (subscriptTail _ _ (Value.ref _) _) _ _ _); refine Hold.intro ?_))
local macro_rules | `(tactic| walk_at "call builtin:sum") => `(tactic| refine Hold.intro ?_)
section
variable {w : World} {A : Around} {E : Value → Shared → Prop} {s : Shared} {h₀ : Heap} {L : Addr} {m : Map} {news : Led}
theorem item_tmp {value slice : Expr} {a : Addr} {its : Array Value} {k : Int} {u : Tok} {x : Value} {Q : Value → Shared → Prop} (hl : s.heap.IsList a its) (h0 : 0 ≤ k) (hfit : k < 1000) (hx : its[k.toNat]? = some x) (h : Q x s)
    (hs : subscripted slice false (.ref a) (.int k u) = operate [.ref a, .int k u] (getItem (.ref a) (.int k u)) := by with_unfolding_all rfl) :
    wpAny (model pw w) A (subscriptTail value slice (.ref a) (.int k u)) Q E s :=
  tail_any hl.typeIs slot_list_getitem.lookup (wpAny_getItem_list hl h0 (by omega) hx h) hs
theorem item_sat (P : Value → Prop) {value slice : Expr} {a : Addr} {its : Array Value} {k : Int} {u : Tok} {Q : Value → Shared → Prop} (hl : s.heap.IsList a its) (h0 : 0 ≤ k) (hk : k < its.size) (hsz : its.size ≤ 1000) (hP : ∀ x ∈ its.toList, P x) (h : ∀ x, its[k.toNat]? = some x → P x → Q x s)
    (hs : subscripted slice false (.ref a) (.int k u) = operate [.ref a, .int k u] (getItem (.ref a) (.int k u)) := by with_unfolding_all rfl) :
    wpAny (model pw w) A (subscriptTail value slice (.ref a) (.int k u)) Q E s := by
  have hlt : k.toNat < its.size := by omega
  exact item_tmp (x := its[k.toNat]) hl h0 (by omega) (by simp [hlt]) (h _ (by simp [hlt]) (hP _ (by simp))) hs
end
theorem letter_item {i : Nat} (h : i < 9) : Txt.item (Str.ofString "aBcdEfghi") (i : Int) = T [letters.getD i 0] := by
  have : i = 0 ∨ i = 1 ∨ i = 2 ∨ i = 3 ∨ i = 4 ∨ i = 5 ∨ i = 6 ∨ i = 7 ∨ i = 8 := by omega
  rcases this with rfl | rfl | rfl | rfl | rfl | rfl | rfl | rfl | rfl <;> decide +kernel
theorem fmod_bd (z : Int) {n : Int} (h : 0 < n) : 0 ≤ z.fmod n ∧ z.fmod n < n := by
  rw [Int.fmod_eq_emod_of_nonneg _ (by omega)]
  exact ⟨Int.emod_nonneg _ (by omega), Int.emod_lt_of_pos _ h⟩
def LK (s : Shared) (la c : Addr) (i : Nat) (m : Map) (n : Led) (g : Array GenState) : Prop :=
  g = s.gens ∧ ∃ its k tups cs, n = (c, lst its k) :: tups ∧ Kn m [(Str.ofString "script", .ref la), (Str.ofString "cards", .ref c)] ∧ LCards tups its.toList cs ∧ (∀ q ∈ tups, q.2.cls = .type "tuple") ∧ DeckOk i cs
abbrev lcEnv (L : Addr) : Env := envOf (nameOf (stm 17)) (scopeOf (stm 17)) L 115 (.ref 114)
set_option maxHeartbeats 4000000 in
theorem cards_call {w : World} {A : Around} {s : Shared} {mg mb : Map} {la : Addr} {vs : List Value} {ns : List Int} {R : Result → Shared → Prop}
    (S : Stat mg mb s.heap) (hd : A.depth + 10 < recursionLimit) (hh : A.handled = none) (hl : s.heap.IsList la vs.toArray) (hi : IntsAre vs ns) (hn : ns.length ≤ 63)
    (hR : ∀ h' tk r rits cs, (∀ b o, s.heap.get? b = some o → h'.get? b = some o) → h'.IsList r rits → CardsAt h' rits.toList cs → DeckOk (manyOf ns) cs → R (.ok (.ret (.ref r))) { s with heap := h', toks := tk }) :
    codeAny (model pw w) A (.call (.ref 115) ⟨[.ref la], []⟩) R s := by
  obtain ⟨o, pm, doc, h1, h2, h3⟩ := S.defs (115, 17, 114) (by decide)
  refine call_plain_ret (binds := [("script", .ref la)]) (by omega) h1 h2 S.nolimit h3 rfl (locs rfl) ?_ rfl rfl rfl (by decide)
  intro h₁ F
  conv in (bodyOf (stm (115, 17, 114).2.1)) => whnf
  have N : News s.heap s.heap.objs.size h₁ [] := News.nil
  have hh' : (A.deeper (lcEnv s.heap.objs.size)).handled = none := hh
  have hd' : (A.deeper (lcEnv s.heap.objs.size)).depth + 5 < recursionLimit := by show A.depth + 1 + 5 < _; omega
  have hl1 : h₁.IsList la vs.toArray := hl.at fun o e => F.keep _ _ e
  iterate 7 walk1
  rename_i ha Fa Na hb Fb Nb
  have hmany : manyOf ns ≤ 9 := by unfold manyOf; omega
  refine for_range (h₀ := s.heap) (n := manyOf ns) (LK { s with heap := h₁ } la h₁.objs.size) hh' Fb Nb (by omega) ?iter ?go ⟨rfl, #[], 0, [], [], rfl, ⟨rfl, rfl, trivial⟩, .nil, (fun _ h => nomatch h), rfl, by intro k c h; simp at h⟩ ?turn ?done
  case go => intro I v s' E' Q' h; exact wpAny_pure h
  case iter =>
    repeat' walk1
    have hvl : vs.toArray.size = ns.length := by simp [hi.length]
    refine len_list (s := ⟨_, _, _, _, _⟩) (hl.at fun o e => Fb.keep _ _ e) (by rw [hvl]; omega) ?_
    rw [hvl]
    repeat' walk1
    have e : 5 + (((ns.length : Nat) : Int).fdiv 2).fmod 3 * 2 = ((manyOf ns : Nat) : Int) := by
      rw [Int.fdiv_eq_ediv_of_nonneg _ (by omega), Int.fmod_eq_emod_of_nonneg _ (by omega)]
      unfold manyOf
      omega
    rw [e]
    exact call_range_1 ⟨_, _, _, _, _, _, rfl, rfl, IsRange.new .., Fb.push _, fun p hp => ⟨Heap.get?_push_of_some _ (Nb p hp).1, (Nb p hp).2⟩⟩
  case turn =>
    rintro I oI i t m n g h tk hin ⟨rfl, its, k, tups, cs, rfl, hkn, hlc, htup, hdk⟩ F N hne hcI
    replace F := Fr.kn F hkn
    dsimp only [over] at F
    have hl2 : h.IsList la vs.toArray := hl.at fun o e => F.keep _ _ e
    repeat' walk1
    rename_i Fx Nx
    refine item_sat (fun x => ∃ z t, x = Value.int z t) (News.isList Nx (.head _)) (by omega) (by simp; omega) (by simp) (by simp) ?_
    rintro _ - ⟨z0, t0, rfl⟩
    repeat' walk1
    rename_i Fy Ny
    refine W.sumK (vs := (slicePick vs.toArray (some (i : Int)) none (some 9)).toList) hh' Fy Ny (by rw [Array.toArray_toList]; exact News.isList Ny (.head _)) (hi.pick _ _ _) ?_
    intro h5 tk5 t5 F5 N5
    generalize (pickNums ns (some (i : Int)) none (some 9)).sum = z1
    replace N5 : News s.heap s.heap.objs.size h5 ((I, oI) :: (h₁.objs.size, lst its k) :: tups) := fun q hq => N5 q (.tail _ (.tail _ hq))
    clear Fy Ny Fx Nx
    repeat' walk1
    refine tail_of_ItemOn (SBL.item (by omega) (by rw [show (Str.ofString "aBcdEfghi").length = 9 by decide]; omega) (by decide) fun _ => ?_) (by with_unfolding_all rfl) (by intro _; with_unfolding_all rfl)
    rw [letter_item (by omega)]
    repeat' walk1
    rename_i Fz Nz
    obtain ⟨hm1, hm2⟩ := fmod_bd (z0 + z1) (n := 5) (by omega)
    refine item_sat (fun x => ∃ y ∈ sufs, ∃ t, x = Value.str (T y) t) (News.isList Nz (.head _)) hm1 (by simpa using hm2) (by simp) ?_ ?_
    · intro x hx
      simp only [List.mem_cons, List.not_mem_nil, or_false] at hx
      rcases hx with rfl | rfl | rfl | rfl | rfl
      · exact ⟨[], by simp [sufs], _, by rw [show Str.ofString "" = T [] by decide]⟩
      · exact ⟨[92, 34], by simp [sufs], _, by rw [show Str.ofString "\\\"" = T [92, 34] by decide]⟩
      · exact ⟨[92, 92], by simp [sufs], _, by rw [show Str.ofString "\\\\" = T [92, 92] by decide]⟩
      · exact ⟨[40], by simp [sufs], _, by rw [show Str.ofString "(" = T [40] by decide]⟩
      · exact ⟨[39, 92], by simp [sufs], _, by rw [show Str.ofString "'\\" = T [39, 92] by decide]⟩
    rintro _ - ⟨y, hy, ty, rfl⟩
    have hy2 : y.length ≤ 2 := by
      simp only [sufs, List.mem_cons, List.not_mem_nil, or_false] at hy
      rcases hy with rfl | rfl | rfl | rfl | rfl <;> decide
    have hTy : (T y).length ≤ 2 := by rw [T_len]; exact hy2
    have hTl : (T [letters.getD i 0]).length = 1 := by rw [T_len]; rfl
    repeat' walk1
    rename_i Fv Nv
    obtain ⟨hm3, hm4⟩ := fmod_bd ((z0 + z1).fdiv 5) (n := 3) (by omega)
    refine item_sat (fun x => ∃ v ∈ valsL, ∃ t, x = optV v t) (News.isList Nv (.head _)) hm3 (by simpa using hm4) (by simp) ?_ ?_
    · intro x hx
      simp only [List.mem_cons, List.not_mem_nil, or_false] at hx
      rcases hx with rfl | rfl | rfl
      · exact ⟨none, by simp [valsL], 0, rfl⟩
      · exact ⟨some (T [55]), by simp [valsL], _, by rw [show Str.ofString "7" = T [55] by decide]; rfl⟩
      · exact ⟨some (T [126, 39]), by simp [valsL], _, by rw [show Str.ofString "~'" = T [126, 39] by decide]; rfl⟩
    rintro _ - ⟨v, hv, tv, rfl⟩
    repeat' walk1
    rename_i Fw Nw
    rw [T_app] at Nw
    have h2 := hdk.1
    refine sp_push (c := (T (letters.getD i 0 :: y), v)) (rest := [(I, oI)]) (tups := tups) (k := k) Fw Nw (.head _) (.tail _ (.tail _ (.tail _ (.tail _ (.head _))))) (fun q hq => ?_) htup (fun q hq => ?_) hlc (by omega) ?_
    · rcases List.mem_append.mp hq with hq | hq
      · exact .tail _ (.tail _ (.tail _ (.tail _ (.tail _ hq))))
      · rw [List.mem_singleton.mp hq]; exact .tail _ (.tail _ (.tail _ (.head _)))
    · rw [List.mem_singleton.mp hq]; exact Ne.symm (hne _ (.head _))
    intro h6 its' tups' F6 N6 hlc6 htup6
    repeat' walk1
    refine ⟨h6, _, s.gens, _, (h₁.objs.size, lst its' (k + 1)) :: tups', rfl, F6, fun q hq => N6 q ?_, fun q hq => ?_, rfl, its', _, tups', _, rfl, ⟨rfl, rfl, trivial⟩, hlc6, htup6, by simp [h2], ?_⟩
    · rcases List.mem_cons.mp hq with rfl | hq
      · exact .tail _ (List.mem_append_right _ (.head _))
      · rcases List.mem_cons.mp hq with rfl | hq
        · exact .head _
        · exact .tail _ (List.mem_append_left _ hq)
    · rcases List.mem_cons.mp hq with rfl | hq
      · exact hne (_, lst its k) (.head _)
      · exact News.ne_cls N6 (.tail _ (List.mem_append_left _ hq)) (.tail _ (List.mem_append_right _ (.head _))) (by rw [htup6 _ hq, hcI]; decide)
    · intro k' c' hk'
      by_cases hlt : k' < cs.length
      · rw [List.getElem?_append_left hlt] at hk'
        exact hdk.2 k' c' hk'
      · have : k' = cs.length := by
          rcases Nat.lt_or_ge cs.length k' with q | q
          · rw [List.getElem?_eq_none (by simp; omega)] at hk'; cases hk'
          · omega
        subst this
        simp at hk'
        subst hk'
        rw [h2]
        exact ⟨y, hy, rfl, hv⟩
  case done =>
    rintro m n g h tk ⟨rfl, its, k, tups, cs, rfl, hkn, hlc, htup, hdk⟩ F N
    replace F := Fr.kn F hkn
    dsimp only [over] at F
    repeat' walk1
    exact hR _ _ _ _ _ F.keep (News.isList N (.head _)) (hlc.at fun q hq => N q (.tail _ hq)) hdk
end Mine

namespace Mine
set_option maxRecDepth 100000
theorem Paired.length {α β : Type} {F : α → β → Prop} {a : List α} {b : List β} (h : Paired F a b) : a.length = b.length := by
  induction h with
  | nil => rfl
  | cons _ _ ih => simp [ih]
theorem Paired.at {α β : Type} {F : α → β → Prop} {a : List α} {b : List β} (h : Paired F a b) : ∀ {i : Nat} {y : β}, b[i]? = some y → ∃ x, a[i]? = some x ∧ F x y := by
  induction h with
  | nil => intro i y e; simp at e
  | cons h1 _ ih =>
    intro i y e
    cases i with
    | zero => simp at e; subst e; exact ⟨_, rfl, h1⟩
    | succ i => simp at e; simpa using ih e
theorem Paired.eq {α : Type} {F : α → α → Prop} (hF : ∀ x y, F x y → y = x) {a b : List α} (h : Paired F a b) : b = a := by
  induction h with
  | nil => rfl
  | cons h1 _ ih => rw [hF _ _ h1, ih]
section
variable {w : World} {A : Around} {E : Value → Shared → Prop} {s : Shared} {h₀ : Heap} {L : Addr} {m : Map} {env : Env}
theorem assign_comp_range {elt iter : Expr} {x y : Str} {px py : Pos} {scope : Scope} {cl : List (Str × Addr)} {pos spos : Pos} {Q : Flow → Shared → Prop} (n : Nat) (G : Nat → Value → Prop)
    (hh : A.handled = none) (hn : n ≤ 1000) (F : Fr h₀ L s.heap m) (hL : env.locals = L)
    (hiter : wpAny (model pw w) A (eval iter env) (fun v s₁ => ∃ r t u q h₁ tk₁, v = .ref r ∧ s₁ = { s with heap := h₁, toks := tk₁ } ∧ IsRange h₁ r 0 (n : Int) 1 t u q ∧ ∀ b o, s.heap.get? b = some o → h₁.get? b = some o) E s)
    (helt : ∀ C i t s₃ m₃ E' (hb : Heap), i < n → (∀ b o, s.heap.get? b = some o → hb.get? b = some o) → Fr hb C s₃.heap m₃ → m₃ x = some (.int ((i : Nat) : Int) t) → wpAny (model pw w) A (eval elt (compEnvC scope cl C env)) (fun y s₄ => G i y ∧ Keeps s₃ s₄) E' s₃)
    (h : ∀ D h' tk (ys : Array Value), ys.size = n → (∀ i y, ys[i]? = some y → G i y) → h'.IsList D ys → s.heap.get? D = none → Fr h₀ L h' (fun z => if z = y then some (.ref D) else m z) → (∀ b o, b ≠ L → s.heap.get? b = some o → h'.get? b = some o) → Q .next { s with heap := h', toks := tk })
    (hsw : swapsWith (.ListComp elt [⟨.Name x px, iter, [], 0⟩] scope pos) (some (.Name y py)) spos.line env = pure true := by rfl)
    (hclos : closureFor scope env = pure cl := by rfl) (hcell : ∀ z ∈ scope.names, z.2 ≠ .cell := by decide) (hkind : scope.kind = .function := by rfl)
    (hnames : ∀ z ∈ scope.names, z.2 = .local → scope.names.lookup z.1 = some .local := by decide) (hx : scope.names.lookup x = some .local := by rfl)
    (hy : env.kindOf y = some .local := by rfl) (hp : (env.scope.kind == .class || (env.scope.kind == .module && env.locals != env.globals)) = false := by rfl)
    (hs : ∀ x, foldedSetIterable iter env x = pure x := by intro _; rfl) :
    wpAny (model pw w) A (exec (.Assign [.Name y py] (.ListComp elt [⟨.Name x px, iter, [], 0⟩] scope pos) spos) env) Q E s := by
  subst hL
  refine wpAny_Assign_ListComp_free (fun _ => true) (fun v y => ∃ i t, v = .int ((i : Nat) : Int) t ∧ G i y) hsw hclos hcell hkind hnames hx hy hp (wpAny_mono hiter (fun xv s₁ h₁ => ?_) fun _ _ e => e) hs
  obtain ⟨r, t, u, q, h₁, tk₁, rfl, rfl, hr, hk1⟩ := h₁
  have hrs : Builtin.Range.rangeSize 0 (n : Int) 1 = (n : Int) := by rw [rangeSize_one]; split <;> omega
  have ns1 : h₁.Ns env.locals m := F.ns.keeps hk1
  have up : ∀ (u : Heap), (∀ b o, b ∉ [h₁.objs.size] → (h₁.push { cls := .type "range_iterator", data := .fields #[rawInt 0, rawInt (Builtin.Range.rangeSize 0 (n : Int) 1), rawInt 1] }).get? b = some o → u.get? b = some o) → ∀ b o, h₁.get? b = some o → u.get? b = some o :=
    fun u hk b o e => hk b o (fun hm => by rcases List.mem_cons.mp hm with rfl | hm; exact Nat.lt_irrefl _ (Heap.lt_size e); cases hm) (Heap.get?_push_of_some _ e)
  refine wpAny_pyIter_range hr (small_one (by omega) (by omega) (by omega) (by omega)) ⟨h₁.objs.size, [h₁.objs.size], [h₁.objs.size], n, _, _, m, rfl, (Walks.range hh _ 0 1 n).bound, by rw [sizeLine_eq]; omega, (by show IsRangeIter _ _ _ _ _; rw [hrs]; simpa using Heap.get?_push_size _ rfl), ?_, ?_, ns1.push _, ⟨?_, ?_⟩, ?_⟩
  · intro b hb
    show b < (h₁.push _).objs.size
    rw [Heap.size_push]
    rcases List.mem_cons.mp hb with rfl | hb
    · exact Nat.lt_succ_self _
    · cases hb
  · intro hm
    rcases List.mem_cons.mp hm with e | hm
    · exact Nat.lt_irrefl _ (e ▸ ns1.lt)
    · cases hm
  · intro C i v s₃ m₃ E' hC hP hn' hm hk _
    exact wpAny_pure ⟨rfl, s₃.heap, s₃.toks, rfl, fun _ _ e => e⟩
  · intro C i v s₃ m₃ E' hC hP _ hn' hm hk _
    obtain ⟨hi, t, rfl⟩ := hP
    have e1 : (0 : Int) + (i : Nat) * 1 = (i : Int) := by omega
    rw [e1] at hm
    have h2 : h₁.objs.size ≤ C := Nat.le_of_succ_le (by simpa [Heap.size_push] using hC)
    exact wpAny_mono (helt C i t s₃ m₃ E' h₁ hi hk1 ⟨hn', up s₃.heap hk, h2⟩ hm) (fun y s₄ h₄ => ⟨⟨i, t, by rw [e1], h₄.1⟩, h₄.2⟩) fun _ _ e => e
  · intro D h' tk ys vs' hnew hlD hplD hlen hP hF hns hk
    rw [List.filter_eq_self.mpr (fun _ _ => rfl)] at hF
    have hsz : ys.size = n := by have := Paired.length hF; simp at this; omega
    have keep : ∀ b o, b ≠ env.locals → s.heap.get? b = some o → h'.get? b = some o := fun b o hb e =>
      hk b o hb (fun hm => by rcases List.mem_cons.mp hm with rfl | hm; exact Nat.lt_irrefl _ (Heap.lt_size (hk1 _ _ e)); cases hm) (Heap.get?_push_of_some _ (hk1 b o e))
    refine h D h' tk ys hsz (fun i y hy => ?_) hlD ?_ ⟨hns, fun b o e => keep b o ?_ (F.keep b o e), F.above⟩ keep
    · obtain ⟨v, hv, j, t, rfl, hG⟩ := Paired.at hF (i := i) (y := y) (by simpa using hy)
      obtain ⟨_, t2, e⟩ := hP i _ hv
      injection e with e _
      have : j = i := by omega
      exact this ▸ hG
    · cases e : s.heap.get? D with
      | none => rfl
      | some o' => rw [Heap.get?_push_of_some _ (hk1 _ _ e)] at hnew; cases hnew
    · rintro rfl
      exact absurd (Heap.lt_size e) (Nat.not_lt.mpr F.above)
theorem comp_filter {elt iter : Expr} {tests : List Expr} {x : Str} {px : Pos} {scope : Scope} {cl : List (Str × Addr)} {pos : Pos} {Q : Value → Shared → Prop} {l : Addr} {items : Array Value} (p : Value → Bool)
    (hh : A.handled = none) (hn : items.size ≤ 1000) (hiter : ∀ Q' : Value → Shared → Prop, Q' (.ref l) s → wpAny (model pw w) A (eval iter env) Q' E s) (hl : s.heap.IsList l items)
    (htest : ∀ C v s₃ m₃ E', v ∈ items.toList → Fr s.heap C s₃.heap m₃ → m₃ x = some v →
      wpAny (model pw w) A (forIn tests true fun c r => if r = true then do let ok ← isTrue c (compEnvC scope cl C env) (eval c (compEnvC scope cl C env)); pure (ForInStep.yield ok) else pure (ForInStep.yield r)) (fun ok s₄ => ok = p v ∧ Keeps s₃ s₄) E' s₃)
    (helt : ∀ C v s₃ m₃ E', v ∈ items.toList → Fr s.heap C s₃.heap m₃ → m₃ x = some v → wpAny (model pw w) A (eval elt (compEnvC scope cl C env)) (fun y s₄ => y = v ∧ Keeps s₃ s₄) E' s₃)
    (h : ∀ D h' tk (ys : Array Value), ys.toList = items.toList.filter p → h'.IsList D ys → s.heap.get? D = none → (∀ b o, s.heap.get? b = some o → h'.get? b = some o) → Q (.ref D) { s with heap := h', toks := tk })
    (hclos : closureFor scope env = pure cl := by rfl) (hcell : ∀ z ∈ scope.names, z.2 ≠ .cell := by decide) (hkind : scope.kind = .function := by rfl)
    (hnames : ∀ z ∈ scope.names, z.2 = .local → scope.names.lookup z.1 = some .local := by decide) (hx : scope.names.lookup x = some .local := by rfl)
    (hs : ∀ x, foldedSetIterable iter env x = pure x := by intro _; rfl) :
    wpAny (model pw w) A (eval (.ListComp elt [⟨.Name x px, iter, tests, 0⟩] scope pos) env) Q E s := by
  refine wpAny_ListComp_free p (fun v y => y = v) hclos hcell hkind hnames hx (hiter _ ?_) hs
  have hne : l ≠ s.heap.objs.size := by
    obtain ⟨o, ho, _⟩ := hl
    exact Nat.ne_of_lt (Heap.lt_size ho)
  refine wpAny_pyIter_list hl ?_
  have up : ∀ (u : Heap) (ob : Obj), (∀ b o, b ∉ [s.heap.objs.size] → (s.heap.push ob).get? b = some o → u.get? b = some o) → ∀ b o, s.heap.get? b = some o → u.get? b = some o :=
    fun u ob hk b o e => hk b o (fun hm => by rcases List.mem_cons.mp hm with rfl | hm; exact Nat.lt_irrefl _ (Heap.lt_size e); cases hm) (Heap.get?_push_of_some _ e)
  refine ⟨s.heap.objs.size, [s.heap.objs.size, l], [s.heap.objs.size], items.size, _, _, rfl, Walks.list hh _ l hne items, by rw [sizeLine_eq]; omega, ⟨⟨_, Heap.get?_push_size _ rfl, rfl, rfl⟩, hl.push _⟩, ?_, ⟨?_, ?_⟩, ?_⟩
  · intro b hb
    show b < (s.heap.push _).objs.size
    rw [Heap.size_push]
    rcases List.mem_cons.mp hb with rfl | hb
    · exact Nat.lt_succ_self _
    · rw [List.mem_singleton.mp hb]
      obtain ⟨o, ho, _⟩ := hl
      exact Nat.lt_succ_of_lt (Heap.lt_size ho)
  · intro C i v s₃ m₃ E' hC hP hn' hm hk _
    exact htest C v s₃ m₃ E' (Array.mem_toList_iff.mpr (Array.mem_of_getElem? hP)) ⟨hn', up s₃.heap _ hk, Nat.le_of_succ_le (by simpa [Heap.size_push] using hC)⟩ hm
  · intro C i v s₃ m₃ E' hC hP _ hn' hm hk _
    exact helt C v s₃ m₃ E' (Array.mem_toList_iff.mpr (Array.mem_of_getElem? hP)) ⟨hn', up s₃.heap _ hk, Nat.le_of_succ_le (by simpa [Heap.size_push] using hC)⟩ hm
  · intro D h' tk ys vs' hnew hlD hplD hlen hP hF hk
    have hvs : vs' = items.toList := by
      apply List.ext_getElem?
      intro i
      by_cases hi : i < vs'.length
      · have := hP i vs'[i] (by simp [hi])
        rw [List.getElem?_eq_getElem hi, Array.getElem?_toList, this]
      · rw [List.getElem?_eq_none (by omega), List.getElem?_eq_none (by simp; omega)]
    have hy := Paired.eq (fun _ _ e => e) hF
    rw [hvs] at hy
    refine h D h' tk ys hy hlD ?_ (up h' _ hk)
    cases e : s.heap.get? D with
    | none => rfl
    | some o' => rw [Heap.get?_push_of_some _ e] at hnew; cases hnew
end
end Mine

namespace Mine
def valL : Option Str → List Nat
  | none => []
  | some v => 61 :: v.cps.toList
/-- a card's text as signs -/
def cardL (c : Card) : List Nat := [59, 32] ++ (c.1.cps.toList ++ (valL c.2 ++ [59, 32]))
def lawL (mk : List Nat) (cs : List Card) : List Nat := mk ++ cs.flatMap fun c => cardL c ++ mk
theorem cardText_T (c : Card) : cardText c = T (cardL c) := by
  obtain ⟨k, v⟩ := c
  have e1 : Str.ofString "; " = T [59, 32] := by decide
  have e2 : Str.ofString "=" = T [61] := by decide
  cases v with
  | none => rw [cardText, cardL]; simp only [e1, valL]; rw [T_eta k, T_app, T_app]; simp
  | some v => rw [cardText, cardL]; simp only [e1, e2, valL]; rw [T_eta k, T_eta v, T_app, T_app, T_app, T_app]; simp
theorem lawFold_T (mk : List Nat) (cs : List Card) : lawFold (T mk) cs = T (lawL mk cs) := by
  have : ∀ (cs : List Card) (t : List Nat), cs.foldl (fun t c => t ++ cardText c ++ T mk) (T t) = T (t ++ cs.flatMap fun c => cardL c ++ mk) := by
    intro cs
    induction cs with
    | nil => intro t; simp
    | cons c cs ih =>
      intro t
      rw [List.foldl_cons, cardText_T, T_app, T_app, ih]
      simp
  exact this cs mk
/-- a stretch without a bare mark, from escaped or not, ending unescaped -/
def quiet : Bool → List Nat → Bool
  | false, [] => true
  | true, [] => false
  | true, _ :: r => quiet false r
  | false, c :: r => if c = 92 then quiet true r else c != 34 && quiet false r
theorem bs_eq : Str.ofString "\\" = (⟨#[92]⟩ : Str) := by decide
theorem mk_eq : Str.ofString "\"" = (⟨#[34]⟩ : Str) := by decide
theorem str1_beq (a b : Nat) : ((⟨#[a]⟩ : Str) == ⟨#[b]⟩) = (a == b) := by
  rw [Bool.eq_iff_iff]
  constructor
  · intro h
    have := eq_of_beq h
    injection this with h
    simpa using h
  · intro h
    rw [eq_of_beq h]; exact beq_self_eq_true _
theorem esc2 (c : Nat) : ((Str.ofString "\\" ++ ⟨#[c]⟩ : Str) == Str.ofString "\"") = false := by
  rw [bs_eq, mk_eq]
  apply Bool.eq_false_iff.mpr
  intro h
  have := eq_of_beq h
  have h2 := congrArg Str.length this
  rw [Str.length_append] at h2
  cases h2
theorem fold_quiet (x : Str) : ∀ (l : List Nat) (b : Bool) (rest : List Nat) (i : Nat) (st : Scan), quiet b l = true → (escs (l ++ rest) i b).foldl (scanStep x) st = (escs rest (i + l.length) false).foldl (scanStep x) st := by
  intro l
  induction l with
  | nil => intro b rest i st h; cases b with
    | true => simp [quiet] at h
    | false => rfl
  | cons c r ih =>
    intro b rest i st h
    rw [List.cons_append, List.length_cons]
    cases b with
    | true =>
      simp only [quiet] at h
      simp only [escs, List.foldl_cons]
      rw [show scanStep x st (i, Str.ofString "\\" ++ ⟨#[c]⟩) = st by unfold scanStep; dsimp only; rw [esc2]; simp]
      rw [ih false rest (i + 1) st h]
      congr 2; omega
    | false =>
      simp only [quiet] at h
      simp only [escs, bs_eq, str1_beq]
      by_cases hc : c = 92
      · rw [if_pos hc] at h
        rw [if_pos (by simp [hc]), ih true rest (i + 1) st h]
        congr 2; omega
      · rw [if_neg hc] at h
        simp only [Bool.and_eq_true, bne_iff_ne] at h
        rw [if_neg (by simp [hc]), List.foldl_cons]
        rw [show scanStep x st (i, ⟨#[c]⟩) = st by
          unfold scanStep; dsimp only; rw [mk_eq, str1_beq, if_neg (by simp [h.1])]]
        rw [ih false rest (i + 1) st h.2]
        congr 2; omega
theorem fold_mark (x : Str) (rest : List Nat) (i : Nat) (st : Scan) : (escs (34 :: rest) i false).foldl (scanStep x) st = (escs rest (i + 1) false).foldl (scanStep x) (scanStep x st (i, Str.ofString "\"")) := by
  simp only [escs, bs_eq, str1_beq]
  rw [if_neg (by decide), List.foldl_cons, mk_eq]
/-- what is left, open and hidden -/
def RA : Bool → List Nat → List (List Nat) → List Nat → List Nat
  | false, p, [], tl => p ++ tl
  | false, p, c :: D, tl => RA true (p ++ c) D tl
  | true, p, [], tl => p ++ 34 :: tl
  | true, p, _ :: D, tl => p ++ RA false [] D tl
def val (X : List Nat) (st : Scan) : List Nat := st.2.2.flatMap (fun y => y.cps.toList) ++ X.drop st.1
def chain (D : List (List Nat)) : List Nat := D.flatMap fun c => c ++ [34]
theorem scan_law (X tl : List Nat) (ht : quiet false tl = true) : ∀ (D : List (List Nat)), (∀ c ∈ D, quiet false c = true) →
    (∀ (P p : List Nat) (out : List Str), X = P ++ (p ++ (chain D ++ tl)) → val X ((escs (chain D ++ tl) (P.length + p.length) false).foldl (scanStep (T X)) (P.length, none, out)) = out.flatMap (fun y => y.cps.toList) ++ RA false p D tl) ∧
    (∀ (P p : List Nat) (out : List Str), X = P ++ (p ++ 34 :: (chain D ++ tl)) → val X ((escs (chain D ++ tl) (P.length + p.length + 1) false).foldl (scanStep (T X)) (P.length, some (P.length + p.length), out)) = out.flatMap (fun y => y.cps.toList) ++ RA true p D tl) := by
  intro D
  induction D with
  | nil =>
    intro _
    have he : ∀ (i : Nat) (st : Scan), (escs (chain [] ++ tl) i false).foldl (scanStep (T X)) st = st := by
      intro i st
      have := fold_quiet (T X) tl false [] i st ht
      simpa [chain, escs] using this
    refine ⟨fun P p out hX => ?_, fun P p out hX => ?_⟩
    · rw [he, val, RA]
      have : X.drop P.length = p ++ tl := by rw [hX]; simp [chain]
      rw [this]
    · rw [he, val, RA]
      have : X.drop P.length = p ++ 34 :: tl := by rw [hX]; simp [chain]
      rw [this]
  | cons c D ih =>
    intro hD
    have ih := ih fun c hc => hD c (.tail _ hc)
    have hc := hD c (.head _)
    have hch : chain (c :: D) ++ tl = c ++ 34 :: (chain D ++ tl) := by simp [chain]
    refine ⟨fun P p out hX => ?_, fun P p out hX => ?_⟩
    · rw [hch] at hX ⊢
      rw [fold_quiet _ _ _ _ _ _ hc, fold_mark]
      rw [show scanStep (T X) (P.length, none, out) (P.length + p.length + c.length, Str.ofString "\"") = (P.length, some (P.length + p.length + c.length), out) by
        unfold scanStep; simp]
      have := ih.2 P (p ++ c) out (by rw [hX]; simp)
      rw [List.length_append, ← Nat.add_assoc] at this
      rw [this, RA]
    · rw [hch] at hX ⊢
      rw [fold_quiet _ _ _ _ _ _ hc, fold_mark]
      have hsl : Txt.slice (T X) (some ((P.length : Nat) : Int)) (some ((P.length + p.length : Nat) : Int)) = T p := by
        rw [T_slice (by omega) (by rw [hX]; simp <;> omega), hX]
        congr 1
        simp
      rw [show scanStep (T X) (P.length, some (P.length + p.length), out) (P.length + p.length + 1 + c.length, Str.ofString "\"") = (P.length + p.length + 1 + c.length + 1, none, if P.length = P.length + p.length then out else out ++ [T p]) by
        unfold scanStep; simp only [beq_self_eq_true, if_true]; rw [hsl]]
      have := ih.1 (P ++ (p ++ 34 :: (c ++ [34]))) [] (if P.length = P.length + p.length then out else out ++ [T p]) (by rw [hX]; simp)
      have hl : (P ++ (p ++ 34 :: (c ++ [34]))).length = P.length + p.length + 1 + c.length + 1 := by simp; omega
      rw [hl, List.length_nil, Nat.add_zero] at this
      rw [this, RA, ← List.append_assoc]
      congr 1
      by_cases hp : p = []
      · subst hp; simp
      · have : ¬ P.length = P.length + p.length := by
          have := List.length_pos_iff.mpr hp
          omega
        rw [if_neg this]; simp
end Mine

namespace Mine
set_option maxRecDepth 100000
def Sto (h₀ : Heap) (n : Led) (a : Addr) (o : Obj) : Prop := h₀.get? a = some o ∨ (a, o) ∈ n
def LstP (P : Addr → Obj → Prop) (a : Addr) (vs : List Value) : Prop := ∃ o n, P a o ∧ o.cls = .type "list" ∧ o.data = .seq vs.toArray n
inductive CardsP (P : Addr → Obj → Prop) : List Value → List Card → Prop
  | nil : CardsP P [] []
  | cons {a o n t t' vs c cs} : P a o → o.cls = .type "tuple" → o.data = .seq #[.str c.1 t, optV c.2 t'] n → CardsP P vs cs → CardsP P (.ref a :: vs) (c :: cs)
def IsSeq (o : Obj) : Prop := ∃ vs n, o.data = .seq vs n
theorem LstP.mono {P P' : Addr → Obj → Prop} (h : ∀ a o, P a o → IsSeq o → P' a o) {a vs} (x : LstP P a vs) : LstP P' a vs :=
  let ⟨o, n, h1, h2, h3⟩ := x; ⟨o, n, h _ _ h1 ⟨_, _, h3⟩, h2, h3⟩
theorem CardsP.mono {P P' : Addr → Obj → Prop} (h : ∀ a o, P a o → IsSeq o → P' a o) {vs cs} (x : CardsP P vs cs) : CardsP P' vs cs := by
  induction x with
  | nil => exact .nil
  | cons h1 h2 h3 _ ih => exact .cons (h _ _ h1 ⟨_, _, h3⟩) h2 h3 ih
theorem CardsP.length {P : Addr → Obj → Prop} {vs cs} (x : CardsP P vs cs) : vs.length = cs.length := by
  induction x with
  | nil => rfl
  | cons _ _ _ _ ih => simp [ih]
theorem CardsP.get {P : Addr → Obj → Prop} {vs cs} (x : CardsP P vs cs) : ∀ {i : Nat} {v : Value}, vs[i]? = some v → ∃ c, cs[i]? = some c ∧ CardsP P [v] [c] := by
  induction x with
  | nil => intro i v e; simp at e
  | cons h1 h2 h3 _ ih =>
    intro i v e
    cases i with
    | zero => simp at e; subst e; exact ⟨_, rfl, .cons h1 h2 h3 .nil⟩
    | succ i => simp at e; simpa using ih e
theorem CardsP.append {P : Addr → Obj → Prop} {vs ws cs ds} (x : CardsP P vs cs) (y : CardsP P ws ds) : CardsP P (vs ++ ws) (cs ++ ds) := by
  induction x with
  | nil => exact y
  | cons h1 h2 h3 _ ih => exact .cons h1 h2 h3 ih
/-- from each place its card -/
theorem CardsP.of_get {P : Addr → Obj → Prop} : ∀ {vs : List Value} {cs : List Card}, vs.length = cs.length → (∀ (i : Nat) (v : Value) (c : Card), vs[i]? = some v → cs[i]? = some c → CardsP P [v] [c]) → CardsP P vs cs
  | [], [], _, _ => .nil
  | v :: vs, c :: cs, h, k => by
    have h1 := k 0 v c rfl rfl
    have h2 := CardsP.of_get (vs := vs) (cs := cs) (by simpa using h) fun i v' c' e1 e2 => k (i + 1) v' c' (by simpa using e1) (by simpa using e2)
    exact CardsP.append h1 h2
theorem CardsP.at {h : Heap} {vs cs} (x : CardsP (fun a o => h.get? a = some o) vs cs) : CardsAt h vs cs := by
  induction x with
  | nil => exact .nil
  | cons h1 h2 h3 _ ih => exact .cons ⟨_, _, _, rfl, _, h1, h2, _, h3⟩ ih
theorem CardsP.of_at {h : Heap} {vs cs} (x : CardsAt h vs cs) : CardsP (fun a o => h.get? a = some o) vs cs := by
  induction x with
  | nil => exact .nil
  | cons a _ ih => obtain ⟨_, _, _, rfl, _, h1, h2, _, h3⟩ := a; exact .cons h1 h2 h3 ih
theorem LstP.at {h : Heap} {a vs} (x : LstP (fun a o => h.get? a = some o) a vs) : h.IsList a vs.toArray := let ⟨o, n, h1, h2, h3⟩ := x; ⟨o, h1, h2, n, h3⟩
theorem LstP.of_at {h : Heap} {a vs} (x : h.IsList a vs.toArray) : LstP (fun a o => h.get? a = some o) a vs := let ⟨o, h1, h2, n, h3⟩ := x; ⟨o, n, h1, h2, h3⟩
def everything (h₀ : Heap) (L : Addr) (h : Heap) : Led := (List.range h.objs.size).filterMap fun b => if b ≠ L ∧ (h₀.get? b).isNone = true then (h.get? b).map fun o => (b, o) else none
theorem mem_everything {h₀ h : Heap} {L : Addr} {p : Addr × Obj} : p ∈ everything h₀ L h ↔ p.1 ≠ L ∧ h₀.get? p.1 = none ∧ h.get? p.1 = some p.2 := by
  obtain ⟨b, o⟩ := p
  unfold everything
  rw [List.mem_filterMap]
  constructor
  · rintro ⟨a, _, e⟩
    split at e
    · rename_i hc
      cases q : h.get? a with
      | none => rw [q] at e; cases e
      | some o' => rw [q] at e; cases e; exact ⟨hc.1, by simpa using hc.2, q⟩
    · cases e
  · rintro ⟨h1, h2, h3⟩
    exact ⟨b, List.mem_range.mpr (Heap.lt_size h3), by rw [if_pos ⟨h1, by rw [h2]; rfl⟩, h3]; rfl⟩
theorem News.all (h₀ : Heap) (L : Addr) (h : Heap) : News h₀ L h (everything h₀ L h) := fun p hp => by
  obtain ⟨h1, h2, h3⟩ := mem_everything.mp hp
  exact ⟨h3, h1, h2⟩
theorem Sto.get {h₀ h : Heap} {L : Addr} {m : Map} {n n' : Led} (F : Fr h₀ L h m) (N : News h₀ L h n') (hs : ∀ q ∈ n, q ∈ n') {a : Addr} {o : Obj} (x : Sto h₀ n a o) : h.get? a = some o := by
  rcases x with x | x
  · exact F.keep _ _ x
  · exact (N _ (hs _ x)).1
theorem Sto.up {h₀ : Heap} {n n' : Led} (hs : ∀ q ∈ n, q ∈ n') {a : Addr} {o : Obj} (x : Sto h₀ n a o) : Sto h₀ n' a o := x.imp_right (hs _)
theorem notL {h₀ h : Heap} {L a : Addr} {m : Map} {o : Obj} (F : Fr h₀ L h m) (ho : h.get? a = some o) (hs : IsSeq o) : a ≠ L := by
  rintro rfl
  obtain ⟨oL, es, ep, hL, hd, _⟩ := F.ns
  rw [ho] at hL; cases hL
  obtain ⟨vs, n, e⟩ := hs
  rw [e] at hd; cases hd
theorem Sto.of_heap {h₀ h : Heap} {L a : Addr} {m : Map} {o : Obj} (F : Fr h₀ L h m) (ho : h.get? a = some o) (hs : IsSeq o) : Sto h₀ (everything h₀ L h) a o := by
  cases q : h₀.get? a with
  | some o' => have := F.keep _ _ q; rw [ho] at this; cases this; exact .inl q
  | none => exact .inr (mem_everything.mpr ⟨notL F ho hs, q, ho⟩)
theorem Led.mem_all {h₀ h : Heap} {L : Addr} {n : Led} (N : News h₀ L h n) : ∀ q ∈ n, q ∈ everything h₀ L h := fun q hq => mem_everything.mpr ⟨(N q hq).2.1, (N q hq).2.2, (N q hq).1⟩
/-- what the law's frame has in hand -/
structure LawSt (h₀ : Heap) (L : Addr) (n : Led) (ca da : Addr) (cvs dvs : List Value) (cs ds : List Card) (many wish : Nat) : Prop where
  c1 : ∃ o, (L + 1, o) ∈ n ∧ o.data = .cell (some (.ref ca))
  c2 : ∃ o t, (L + 2, o) ∈ n ∧ o.data = .cell (some (.int many t))
  c3 : ∃ o t, (L + 3, o) ∈ n ∧ o.data = .cell (some (.int wish t))
  c4 : ∃ o v, (L + 4, o) ∈ n ∧ o.data = .cell v
  lc : LstP (Sto h₀ n) ca cvs
  cc : CardsP (Sto h₀ n) cvs cs
  ld : LstP (Sto h₀ n) da dvs
  cd : CardsP (Sto h₀ n) dvs ds
theorem LawSt.up {h₀ : Heap} {L : Addr} {n n' : Led} {ca da : Addr} {cvs dvs : List Value} {cs ds : List Card} {many wish : Nat} (hs : ∀ q ∈ n, q ∈ n') (x : LawSt h₀ L n ca da cvs dvs cs ds many wish) : LawSt h₀ L n' ca da cvs dvs cs ds many wish :=
  ⟨let ⟨o, a, b⟩ := x.c1; ⟨o, hs _ a, b⟩, let ⟨o, t, a, b⟩ := x.c2; ⟨o, t, hs _ a, b⟩, let ⟨o, t, a, b⟩ := x.c3; ⟨o, t, hs _ a, b⟩, let ⟨o, t, a, b⟩ := x.c4; ⟨o, t, hs _ a, b⟩,
    x.lc.mono fun _ _ h _ => h.up hs, x.cc.mono fun _ _ h _ => h.up hs, x.ld.mono fun _ _ h _ => h.up hs, x.cd.mono fun _ _ h _ => h.up hs⟩
end Mine

namespace Mine
set_option maxRecDepth 100000
theorem call_cells_ret {w : World} {A : Around} {R : Result → Shared → Prop} {s : Shared} {name : Str} {params : Arguments} {body : List Stmt} {scope : Scope}
    {pm cd doc : Value} {a : Addr} {o : Obj} {args : List Value} {binds : List (Str × Value)}
    (hroom : A.depth < recursionLimit) (ho : s.heap.get? a = some o) (hdata : o.data = .func (Calls.docDef name params body scope pm cd doc)) (hlim : s.heap.NoLimit) (hcd : s.heap.CodeRec cd name)
    (hbind : bindArgs (Calls.docDef name params body scope pm cd doc) ⟨args, []⟩ = pure binds)
    (hkind : ∀ n, ∀ x ∈ binds, scope.names.lookup x.1 = some .local ∨ (scope.names.lookup x.1 = some .cell ∧ ((cellsFrom n scope.names []).lookup x.1).isSome = true))
    (hnd : ((cellsFrom 0 scope.names []).map (·.1)).Nodup)
    (h : ∀ h₁ tk cells, Fr s.heap s.heap.objs.size h₁ (bindL (envOfC name scope s.heap.objs.size a cd).kindOf binds fun _ => none) → News s.heap s.heap.objs.size h₁ cells →
      CellsAre (bindC (envOfC name scope s.heap.objs.size a cd).kindOf binds fun _ => none) (cellsFrom (s.heap.objs.size + 1) scope.names []) cells →
      wpAny (model pw w) (A.deeper (envOfC name scope s.heap.objs.size a cd)) (execs body (envOfC name scope s.heap.objs.size a cd))
        (fun f s' => R (.ok (.ret (match f with | .ret v => v | _ => .none))) s') (fun _ _ => False)
        { s with heap := h₁, toks := tk })
    (hco : scope.isCoroutine = false := by rfl) (hgen : scope.isGenerator = false := by rfl) (hk : scope.kind = .function := by rfl) :
    codeAny (model pw w) A (.call (.ref a) ⟨args, []⟩) R s := by
  refine codeAny_call_function hroom ho hdata hco hgen rfl hcd ?_
  rw [hbind]
  refine wpAny_pure (wpAny_newFunctionEnv_cells hk (hkind _) fun env' he s' x => ?_)
  subst he
  refine ⟨hlim.keeps x.toInCall.keep, codeAny_func ?_⟩
  obtain ⟨h₁, tk, rfl, _⟩ := x.done
  have hk₁ := x.toInCall.keep
  obtain ⟨cells, NC, Y⟩ := Cl.news (h₀ := s.heap) (Nat.le_refl _) fun n c hm => ⟨x.cell n c (lookup_of_mem_nodup (cellsFrom_names scope.names 0 (s.heap.objs.size + 1) [] [] rfl ▸ hnd) hm), x.above n c hm⟩
  exact wpAny_mono (h h₁ tk cells ⟨x.toInCall.ns, fun b o e => hk₁ b o e, Nat.le_refl _⟩ NC Y) (fun fl s' hl => hl) fun _ _ y => y.elim
end Mine

namespace Mine
set_option maxRecDepth 100000
section
variable {w : World} {A : Around} {E : Value → Shared → Prop} {s : Shared} {h₀ : Heap} {L a : Addr} {m mg mb : Map} {news : Led} {cn : Str} {cs : Scope} {ccd : Value} {cl : List (Str × Addr)} {x : Str} {pos : Pos} {v : Value}
theorem gnameX {Q : Value → Shared → Prop} (S : Stat mg mb h₀) (F : Fr h₀ L s.heap m) (hx : gtab.lookup x = some v) (h : Q v s)
    (hk : cs.kind = .function := by rfl) (hl : (envX cn cs L a ccd cl).kindOf x = some .globalImplicit := by rfl) (hd : (x == ("__debug__" : Str)) = false := by decide) :
    wpAny (model pw w) A (eval (.Name x pos) (envX cn cs L a ccd cl)) Q E s :=
  Name_function_global hk hl (loadGlobal_global (env := envX cn cs L a ccd cl) (S.g.keeps F.keep) (S.names _ (lookup_mem hx)) h) hd
theorem bnameX {Q : Value → Shared → Prop} (S : Stat mg mb h₀) (F : Fr h₀ L s.heap m) (hx : x ∈ btab) (hb : bootBuiltins x = some v) (h : Q v s)
    (hn : x ≠ "__name__" := by decide) (hk : cs.kind = .function := by rfl) (hl : (envX cn cs L a ccd cl).kindOf x = some .globalImplicit := by rfl) (hd : (x == ("__debug__" : Str)) = false := by decide) :
    wpAny (model pw w) A (eval (.Name x pos) (envX cn cs L a ccd cl)) Q E s :=
  Name_function_global hk hl (loadGlobal_builtin (env := envX cn cs L a ccd cl) (S.g.keeps F.keep) (S.free x hx) (S.b.keeps F.keep) ((S.bi x hn).trans hb) h) hd
theorem storeC {Q : Unit → Shared → Prop} {c : Addr} {o : Obj} {v₀ : Option Value} (F : Fr h₀ L s.heap m) (N : News h₀ L s.heap news) (hc : cl.lookup x = some c) (hm : (c, o) ∈ news) (hd : o.data = .cell v₀)
    (h : ∀ h' o', Fr h₀ L h' m → News h₀ L h' ((c, o') :: news.filter fun q => q.1 != c) → o'.data = .cell (some v) → Q () { s with heap := h' })
    (hk : cs.kind = .function := by rfl) (hx : (envX cn cs L a ccd cl).kindOf x = some .cell := by rfl) : wpAny (model pw w) A (storeName (envX cn cs L a ccd cl) x v) Q E s := by
  have hmem := N (c, o) hm
  refine wpAny_storeName_cell hk hx hc ⟨o, hmem.1, hd⟩ fun h' hv hs => ?_
  obtain ⟨o', ho', hd'⟩ := hv
  refine h h' o' (F.change hs hmem.2.1 hmem.2.2) (fun q hq => ?_) hd'
  rcases List.mem_cons.mp hq with rfl | hq
  · exact ⟨ho', hmem.2⟩
  · obtain ⟨h1, h2⟩ := List.mem_filter.mp hq
    exact ⟨(hs.2 q.1 (by simpa using h2)).trans (N q h1).1, (N q h1).2⟩
theorem Sto.filter {n : Led} {h : Heap} {c b : Addr} {oc o' o : Obj} {vc : Option Value} (N : News h₀ L h n) (hc : (c, oc) ∈ n) (hd : oc.data = .cell vc) (x : Sto h₀ n b o) (hs : IsSeq o) : Sto h₀ ((c, o') :: n.filter fun q => q.1 != c) b o := by
  rcases x with x | x
  · exact .inl x
  · refine .inr (.tail _ (List.mem_filter.mpr ⟨x, ?_⟩))
    have : b ≠ c := by
      rintro rfl
      have h1 := (N _ x).1
      rw [(N _ hc).1] at h1
      cases h1
      obtain ⟨vs, k, e⟩ := hs
      rw [e] at hd; cases hd
    simpa using this
theorem pow2_int {e : Nat} {t u : Tok} {Q : Value → Shared → Prop} (he : e ≤ 100) (h : Q (.int ((2 ^ e : Nat) : Int) s.toks) { s with toks := s.toks + 1 }) : wpAny (model pw w) A (binaryOp .Pow (.int 2 t) (.int (e : Int) u)) Q E s := by
  refine pow_int (by omega) ?_ ?_
  · rw [show (Builtin.Int.intBits 2 : Nat) = 2 by decide +kernel]; omega
  · rw [Int.toNat_natCast]
    have : (2 : Int) ^ e = ((2 ^ e : Nat) : Int) := by simp
    rw [this]; exact h
end
def turnsOf (many : Nat) : Nat := if many = 9 then 4 else 3
def wishOf (many : Nat) (ns : List Int) : Nat := ((ns.sum + 3) % ((2 ^ turnsOf many : Nat) : Int)).toNat
abbrev lawEnv (L : Addr) : Env := envOfC (nameOf (stm 19)) (scopeOf (stm 19)) L 127 (.ref 126)
abbrev lawCl (L : Addr) : List (Str × Addr) := [(Str.ofString "step", L + 4), (Str.ofString "wish", L + 3), (Str.ofString "many", L + 2), (Str.ofString "cards", L + 1)]
theorem lawEnv_eq (L : Addr) : lawEnv L = envX (nameOf (stm 19)) (scopeOf (stm 19)) L 127 (.ref 126) (lawCl L) := rfl
theorem many_cases (ns : List Int) : manyOf ns = 5 ∨ manyOf ns = 7 ∨ manyOf ns = 9 := by unfold manyOf; omega
theorem item_turns {w : World} {A : Around} {E : Value → Shared → Prop} {s : Shared} {many : Nat} {value slice : Expr} {a : Addr} {t1 t2 t3 u : Tok} {Q : Value → Shared → Prop} (hm : many = 5 ∨ many = 7 ∨ many = 9) (hl : s.heap.IsList a #[.int 3 t1, .int 3 t2, .int 4 t3])
    (h : ∀ tt, Q (.int ((turnsOf many : Nat) : Int) tt) s)
    (hs : subscripted slice false (.ref a) (.int ((many : Int).fdiv 2 - 2) u) = operate [.ref a, .int ((many : Int).fdiv 2 - 2) u] (getItem (.ref a) (.int ((many : Int).fdiv 2 - 2) u)) := by with_unfolding_all rfl) :
    wpAny (model pw w) A (subscriptTail value slice (.ref a) (.int ((many : Int).fdiv 2 - 2) u)) Q E s := by
  rcases hm with rfl | rfl | rfl
  · exact item_tmp (x := .int 3 t1) hl (by decide) (by decide) rfl (h t1) hs
  · exact item_tmp (x := .int 3 t2) hl (by decide) (by decide) rfl (h t2) hs
  · exact item_tmp (x := .int 4 t3) hl (by decide) (by decide) rfl (h t3) hs
theorem wish_eq (many : Nat) (ns : List Int) : (ns.sum + 3).fmod ((2 ^ turnsOf many : Nat) : Int) = ((wishOf many ns : Nat) : Int) := by
  unfold wishOf
  have hp : (0 : Int) < ((2 ^ turnsOf many : Nat) : Int) := by
    have := Nat.two_pow_pos (turnsOf many)
    omega
  rw [Int.fmod_eq_emod_of_nonneg _ (by omega), Int.toNat_of_nonneg (Int.emod_nonneg _ (by omega))]
local macro_rules | `(tactic| walk_at "eval Name") => `(tactic| first | (refine gnameX (by assumption) (by assumption) (by rfl) ?_) | (refine bnameX (by assumption) (by assumption) (by decide) (by first | exact bb_len | exact bb_sum | exact bb_range) ?_) | (refine nameX_L (by assumption) (by rfl) ?_) | (refine nameX_C (by assumption) (by rfl) (by repeat (first | assumption | apply List.mem_cons_of_mem)) (by assumption) ?_))
local macro_rules | `(tactic| walk_at "storeName") => `(tactic| first | (refine storeX_L (by assumption) (by assumption) ?_; intro _ _ _) | (refine storeC (by assumption) (by assumption) (by rfl) (by repeat (first | assumption | apply List.mem_cons_of_mem)) (by assumption) ?_; intro _ _ _ _ _))
local macro_rules | `(tactic| walk_at "callWith ref") => `(tactic| (refine callWith_st (by assumption) (by rfl) ?_))
local macro_rules | `(tactic| walk_at "call type:range") => `(tactic| refine Hold.intro ?_)
local macro_rules | `(tactic| walk_at "subscriptTail") => `(tactic| ((with_reducible show wpAny _ _ (subscriptTail _ _ (Value.ref _) _) _ _ _); refine Hold.intro ?_))
local macro_rules | `(tactic| walk_at "call builtin:sum") => `(tactic| refine Hold.intro ?_)
local macro_rules | `(tactic| walk_at "call builtin:len") => `(tactic| refine Hold.intro ?_)
local macro_rules | `(tactic| walk_at "call ref") => `(tactic| refine Hold.intro ?_)
local macro_rules | `(tactic| walk_at "binaryOp Pow int int") => `(tactic| refine Hold.intro ?_)
local macro_rules | `(tactic| walk_at "binaryOp Mod") => `(tactic| refine Hold.intro ?_)
set_option maxHeartbeats 4000000 in
theorem law_head {w : World} {A : Around} {s : Shared} {mg mb : Map} {la : Addr} {vs : List Value} {ns : List Int} {R : Result → Shared → Prop}
    (S : Stat mg mb s.heap) (hd : A.depth + 30 < recursionLimit) (hh : A.handled = none) (hl : s.heap.IsList la vs.toArray) (hi : IntsAre vs ns) (hn : ns.length ≤ 63)
    (h : ∀ h' tk m n ca cvs cs tt, Fr s.heap s.heap.objs.size h' m → News s.heap s.heap.objs.size h' n → LawSt s.heap s.heap.objs.size n ca ca cvs cvs cs cs (manyOf ns) (wishOf (manyOf ns) ns) → DeckOk (manyOf ns) cs →
      Kn m [(Str.ofString "turns", .int ((turnsOf (manyOf ns) : Nat) : Int) tt), (Str.ofString "deck", .ref ca)] →
      wpAny (model pw w) (A.deeper (lawEnv s.heap.objs.size)) (execs ((bodyOf (stm 19)).drop 5) (lawEnv s.heap.objs.size))
        (fun f s' => R (.ok (.ret (match f with | .ret v => v | _ => .none))) s') (fun _ _ => False) { s with heap := h', toks := tk }) :
    codeAny (model pw w) A (.call (.ref 127) ⟨[.ref la], []⟩) R s := by
  obtain ⟨o, pm, doc, h1, h2, h3⟩ := S.defs (127, 19, 126) (by decide)
  refine call_cells_ret (binds := [("script", .ref la)]) (by omega) h1 h2 S.nolimit h3 rfl (by intro n x hx; rw [List.mem_singleton.mp hx]; exact .inl rfl) (by decide) ?_ rfl rfl rfl
  intro h₁ tk cells F N hcells
  generalize hL : s.heap.objs.size = L at *
  have hcl : cellsFrom (L + 1) (scopeOf (stm (127, 19, 126).2.1)).names [] = lawCl L := rfl
  rw [hcl] at hcells
  cases hcells with | cons d4 hcells => ?_
  rename_i o4 _
  cases hcells with | cons d3 hcells => ?_
  rename_i o3 _
  cases hcells with | cons d2 hcells => ?_
  rename_i o2 _
  cases hcells with | cons d1 hcells => ?_
  rename_i o1 _
  cases hcells
  replace F : Fr s.heap L h₁ (fun y => if y = Str.ofString "script" then some (.ref la) else none) := F
  obtain ⟨bd, hbd⟩ : ∃ b, b = bodyOf (stm 19) := ⟨_, rfl⟩
  have hdrop : (bodyOf (stm 19)).drop 5 = bd.drop 5 := by rw [hbd]
  rw [hdrop] at h
  show wpAny (model pw w) (A.deeper (lawEnv L)) (execs (bodyOf (stm 19)) (envX (nameOf (stm 19)) (scopeOf (stm 19)) L 127 (.ref 126) (lawCl L))) _ _ _
  rw [← hbd]
  conv at hbd => rhs; whnf
  subst hbd
  dsimp only [List.drop] at h
  have hh' : (A.deeper (lawEnv L)).handled = none := hh
  have hd' : (A.deeper (lawEnv L)).depth + 25 < recursionLimit := by show A.depth + 1 + 25 < _; omega
  repeat' walk1
  refine wpAny_call (cards_call (S.keeps F.keep) (by omega) hh' (hl.at fun o e => F.keep _ _ e) hi hn ?_)
  intro h' tk1 ca rits cs keep hlc hcc hdk
  have hszr : rits.toList.length = cs.length := hcc.length
  have hmc := many_cases ns
  have hsz9 : rits.size ≤ 9 := by
    have := hdk.1
    simp only [Array.length_toList] at hszr
    omega
  have F1 := Fr.more F keep
  have N1 := News.more' N keep
  have hmem := Led.mem_all N1
  have NA := News.all s.heap L h'
  have slc : LstP (Sto s.heap (everything s.heap L h')) ca rits.toList := (LstP.of_at (by rw [Array.toArray_toList]; exact hlc)).mono fun a o ho hs => Sto.of_heap F1 ho hs
  have scc : CardsP (Sto s.heap (everything s.heap L h')) rits.toList cs := (CardsP.of_at hcc).mono fun a o ho hs => Sto.of_heap F1 ho hs
  have m1 := hmem _ (.tail _ (.tail _ (.tail _ (.head _))))
  have m2 := hmem _ (.tail _ (.tail _ (.head _)))
  have m3 := hmem _ (.tail _ (.head _))
  have m4 := hmem _ (.head _)
  clear hcc hlc hmem N1 N
  generalize everything s.heap L h' = NL at *
  refine storeC F1 NA (by rfl) m1 d1 ?_
  intro h2' o1' F2 N2 d1'
  replace slc := slc.mono fun a o ho hs => Sto.filter (o' := o1') NA m1 d1 ho hs
  replace scc := scc.mono fun a o ho hs => Sto.filter (o' := o1') NA m1 d1 ho hs
  replace m2 : (L + 2, o2) ∈ (L + 1, o1') :: NL.filter fun q => q.1 != L + 1 := .tail _ (List.mem_filter.mpr ⟨m2, by simp⟩)
  replace m3 : (L + 3, o3) ∈ (L + 1, o1') :: NL.filter fun q => q.1 != L + 1 := .tail _ (List.mem_filter.mpr ⟨m3, by simp⟩)
  replace m4 : (L + 4, o4) ∈ (L + 1, o1') :: NL.filter fun q => q.1 != L + 1 := .tail _ (List.mem_filter.mpr ⟨m4, by simp⟩)
  have m1' : (L + 1, o1') ∈ (L + 1, o1') :: NL.filter fun q => q.1 != L + 1 := .head _
  clear m1 F1 NA keep F
  generalize (L + 1, o1') :: NL.filter (fun q => q.1 != L + 1) = NM at *
  repeat' walk1
  refine len_list (slc.mono fun a o ho _ => ho.get F2 N2 fun _ hq => hq).at (by simp; omega) ?_
  rw [show rits.toList.toArray.size = manyOf ns by rw [List.size_toArray, hszr]; exact hdk.1]
  refine storeC F2 N2 (by rfl) m2 d2 ?_
  intro h3' o2' F3 N3 d2'
  replace slc := slc.mono fun a o ho hs => Sto.filter (o' := o2') N2 m2 d2 ho hs
  replace scc := scc.mono fun a o ho hs => Sto.filter (o' := o2') N2 m2 d2 ho hs
  replace m1' : (L + 1, o1') ∈ (L + 2, o2') :: NM.filter fun q => q.1 != L + 2 := .tail _ (List.mem_filter.mpr ⟨m1', by simp⟩)
  replace m3 : (L + 3, o3) ∈ (L + 2, o2') :: NM.filter fun q => q.1 != L + 2 := .tail _ (List.mem_filter.mpr ⟨m3, by simp⟩)
  replace m4 : (L + 4, o4) ∈ (L + 2, o2') :: NM.filter fun q => q.1 != L + 2 := .tail _ (List.mem_filter.mpr ⟨m4, by simp⟩)
  have m2' : (L + 2, o2') ∈ (L + 2, o2') :: NM.filter fun q => q.1 != L + 2 := .head _
  clear m2 F2 N2
  generalize (L + 2, o2') :: NM.filter (fun q => q.1 != L + 2) = NN at *
  repeat' walk1
  rename_i Fa Na
  refine item_turns hmc (News.isList Na (.head _)) fun tt => ?_
  replace Na := fun q hq => Na q (.tail _ hq)
  repeat' walk1
  refine W.sumK (vs := vs) hh' (by assumption) (by assumption) (hl.at fun o e => Fr.keep (by assumption) _ _ e) hi fun h5 tk5 t5 F5 N5 => ?_
  repeat' walk1
  have ht4 : turnsOf (manyOf ns) ≤ 4 := by unfold turnsOf; split <;> omega
  refine pow2_int (by omega) ?_
  repeat' walk1
  refine mod_int' (by have := Nat.two_pow_pos (turnsOf (manyOf ns)); omega) ?_
  rw [wish_eq]
  rename_i hb Fb Nb
  refine storeC F5 N5 (by rfl) m3 d3 ?_
  intro h6' o3' F6 N6 d3'
  replace slc := slc.mono fun a o ho hs => Sto.filter (o' := o3') N5 m3 d3 ho hs
  replace scc := scc.mono fun a o ho hs => Sto.filter (o' := o3') N5 m3 d3 ho hs
  replace m1' : (L + 1, o1') ∈ (L + 3, o3') :: NN.filter fun q => q.1 != L + 3 := .tail _ (List.mem_filter.mpr ⟨m1', by simp⟩)
  replace m2' : (L + 2, o2') ∈ (L + 3, o3') :: NN.filter fun q => q.1 != L + 3 := .tail _ (List.mem_filter.mpr ⟨m2', by simp⟩)
  replace m4 : (L + 4, o4) ∈ (L + 3, o3') :: NN.filter fun q => q.1 != L + 3 := .tail _ (List.mem_filter.mpr ⟨m4, by simp⟩)
  have m3' : (L + 3, o3') ∈ (L + 3, o3') :: NN.filter fun q => q.1 != L + 3 := .head _
  clear m3 F5 N5
  generalize (L + 3, o3') :: NN.filter (fun q => q.1 != L + 3) = NO at *
  iterate 4 walk1
  rename_i Fz Nz
  exact h _ _ _ NO ca rits.toList cs tt Fz Nz ⟨⟨o1', m1', d1'⟩, ⟨o2', _, m2', d2'⟩, ⟨o3', _, m3', d3'⟩, ⟨o4, _, m4, d4⟩, slc, scc, slc, scc⟩ hdk ⟨rfl, rfl, trivial⟩
end Mine

namespace Mine
set_option maxRecDepth 100000
local macro_rules | `(tactic| walk_at "eval Name") => `(tactic| first | (refine gnameX (by assumption) (by assumption) (by rfl) ?_) | (refine bnameX (by assumption) (by assumption) (by decide) (by first | exact bb_len | exact bb_sum | exact bb_range) ?_) | (refine nameX_L (by assumption) (by rfl) ?_) | (refine nameX_C (by assumption) (by rfl) (by repeat (first | assumption | apply List.mem_cons_of_mem)) (by assumption) ?_))
local macro_rules | `(tactic| walk_at "storeName") => `(tactic| first | (refine storeX_L (by assumption) (by assumption) ?_; intro _ _ _) | (refine storeC (by assumption) (by assumption) (by rfl) (by repeat (first | assumption | apply List.mem_cons_of_mem)) (by assumption) ?_; intro _ _ _ _ _))
local macro_rules | `(tactic| walk_at "callWith ref") => `(tactic| (refine callWith_st (by assumption) (by rfl) ?_))
local macro_rules | `(tactic| walk_at "call type:range") => `(tactic| refine Hold.intro ?_)
local macro_rules | `(tactic| walk_at "subscriptTail") => `(tactic| ((with_reducible show wpAny _ _ (subscriptTail _ _ (Value.ref _) _) _ _ _); refine Hold.intro ?_))
local macro_rules | `(tactic| walk_at "call builtin:sum") => `(tactic| refine Hold.intro ?_)
local macro_rules | `(tactic| walk_at "call builtin:len") => `(tactic| refine Hold.intro ?_)
local macro_rules | `(tactic| walk_at "call ref") => `(tactic| refine Hold.intro ?_)
local macro_rules | `(tactic| walk_at "binaryOp Pow int int") => `(tactic| refine Hold.intro ?_)
local macro_rules | `(tactic| walk_at "binaryOp Mod") => `(tactic| refine Hold.intro ?_)
local macro_rules | `(tactic| walk_at "binaryOp Add ref ref") => `(tactic| refine Hold.intro ?_)
theorem News.sub {h₀ h : Heap} {L : Addr} {n n' : Led} (N : News h₀ L h n) (hs : ∀ q ∈ n', q ∈ n) : News h₀ L h n' := fun q hq => N q (hs q hq)
theorem turn_end {h₀ h' : Heap} {L I : Addr} {oI : Obj} {K : Map → Led → Array GenState → Prop} {s s₃ : Shared} {m' : Map} (pre n1 : Led) (F : Fr h₀ L h' m') (N : News h₀ L h' (pre ++ (I, oI) :: n1)) (hpre : ∀ p ∈ pre, p.2.cls ≠ oI.cls) (hne : ∀ p ∈ n1, p.1 ≠ I)
    (hK : K m' (pre ++ n1) s₃.gens) (hs : s₃ = { s with heap := h', toks := s₃.toks, gens := s₃.gens }) : TurnEnd h₀ L K I oI s s₃ :=
  ⟨h', s₃.toks, s₃.gens, m', pre ++ n1, hs, F, News.sub N fun q hq => by
    rcases List.mem_cons.mp hq with rfl | hq
    · exact List.mem_append_right _ (.head _)
    · rcases List.mem_append.mp hq with hq | hq
      · exact List.mem_append_left _ hq
      · exact List.mem_append_right _ (.tail _ hq), fun p hp => by
    rcases List.mem_append.mp hp with hp | hp
    · exact News.ne_cls N (List.mem_append_left _ hp) (List.mem_append_right _ (.head _)) (hpre p hp)
    · exact hne p hp, hK⟩
theorem mk34 : Str.ofString "\"" = T [34] := by decide
def turnB : List Stmt := forBody ((bodyOf (stm 19)).getD 5 (.Pass default))
def markC : Card := (T [34], none)
def rowC (D : List Card) : List Card := markC :: D.flatMap fun c => [c, markC]
theorem rowC_snoc {D : List Card} {c : Card} {i : Nat} (h : D[i]? = some c) : rowC (D.take (i + 1)) = rowC (D.take i) ++ [c, markC] := by
  unfold rowC
  rw [List.take_add_one, h]
  simp
abbrev lawX (L : Addr) : Env := envX (nameOf (stm 19)) (scopeOf (stm 19)) L 127 (.ref 126) (lawCl L)
def RowK (h₀ : Heap) (n₀ : Led) (g0 : Array GenState) (dv tv uv : Value) (D : List Card) (j : Nat) (m : Map) (n : Led) (g : Array GenState) : Prop :=
  g = g0 ∧ (∀ q ∈ n₀, q ∈ n) ∧ ∃ ra rvs, LstP (Sto h₀ n) ra rvs ∧ CardsP (Sto h₀ n) rvs (rowC (D.take j)) ∧ Kn m [(Str.ofString "row", .ref ra), (Str.ofString "deck", dv), (Str.ofString "turns", tv), (Str.ofString "turn", uv)]
set_option maxHeartbeats 4000000 in
theorem seg_row {w : World} {A : Around} {s : Shared} {h₀ : Heap} {L : Addr} {mg mb m : Map} {n : Led} {ca da many wish : Nat} {cvs dvs : List Value} {cs D : List Card} {tv uv : Value} {Q : Flow → Shared → Prop}
    (S : Stat mg mb h₀) (hh : A.handled = none) (F : Fr h₀ L s.heap m) (N : News h₀ L s.heap n) (st : LawSt h₀ L n ca da cvs dvs cs D many wish) (hD : D.length ≤ 9)
    (hkn : Kn m [(Str.ofString "deck", .ref da), (Str.ofString "turns", tv), (Str.ofString "turn", uv)])
    (h : ∀ h' tk m' n' ra rvs, Fr h₀ L h' m' → News h₀ L h' n' → (∀ q ∈ n, q ∈ n') → LstP (Sto h₀ n') ra rvs → CardsP (Sto h₀ n') rvs (rowC D) → Kn m' [(Str.ofString "row", .ref ra), (Str.ofString "deck", .ref da), (Str.ofString "turns", tv), (Str.ofString "turn", uv)] →
      wpAny (model pw w) A (execs (turnB.drop 2) (lawX L)) Q (fun _ _ => False) { s with heap := h', toks := tk }) :
    wpAny (model pw w) A (execs turnB (lawX L)) Q (fun _ _ => False) s := by
  obtain ⟨bd, hbd⟩ : ∃ b, b = turnB := ⟨_, rfl⟩
  rw [← hbd] at h ⊢
  conv at hbd => rhs; whnf
  subst hbd
  dsimp only [List.drop] at h
  replace F := Fr.kn F hkn
  dsimp only [over] at F
  repeat' walk1
  rename_i hb Fb Nb
  rw [mk34] at Nb
  have hdl : dvs.length = D.length := st.cd.length
  refine for_frC (h₀ := h₀) (l := da) (vs := dvs) (RowK h₀ n s.gens (.ref da) tv uv D) hh Fb Nb ?iter ?lst ?go ⟨rfl, fun q hq => .tail _ (.tail _ hq), _, _, ⟨_, _, .inr (.head _), rfl, rfl⟩, .cons (c := markC) (t' := 0) (.inr (.tail _ (.head _))) rfl rfl .nil, rfl, rfl, rfl, rfl, trivial⟩ ?turn ?done
  case iter => intro Q' h; exact nameX_L Fb rfl h
  case lst => rintro i m n g h ⟨_, hs, _⟩ F N; exact (st.ld.mono fun a o ho _ => ho.get F N hs).at
  case go => intro I j i v s' E' hv hit Q' h; exact wpAny_pure h
  case turn =>
    rintro I oI i v m1 n1 g h1 tk hv ⟨rfl, hs, ra, rvs, hlr, hcr, hkn1⟩ F N hne hcI
    obtain ⟨c, hc, hcv⟩ := st.cd.get hv
    replace F := Fr.kn F hkn1
    dsimp only [over] at F
    have hrl : rvs.length ≤ 100 := by
      have h1 := hcr.length
      have h2 : (rowC (D.take i)).length ≤ 1 + 2 * (D.take i).length := by
        unfold rowC
        simp only [List.length_cons]
        have : ∀ l : List Card, (l.flatMap fun c => [c, markC]).length = 2 * l.length := by
          intro l
          induction l with
          | nil => rfl
          | cons a l ih => simp [ih]; omega
        rw [this]; omega
      have h3 : (D.take i).length ≤ 9 := by rw [List.length_take]; omega
      omega
    repeat' walk1
    rename_i Fx Nx
    rw [mk34] at Nx
    refine add_lists (vs := rvs) Fx Nx (hlr.mono fun a o ho _ => ho.get Fx Nx fun q hq => .tail _ (.tail _ (.tail _ hq))).at (News.isList Nx (.head _)) (fun h5 F5 N5 => ?_) (by rw [sizeLine_eq]; simp; omega)
    repeat' walk1
    rename_i F6 N6
    refine turn_end [_, _, _] n1 F6 N6 ?_ hne ⟨rfl, fun q hq => List.mem_append_right _ (hs q hq), _, _, ⟨_, _, .inr (.head _), rfl, rfl⟩, ?_, rfl, rfl, rfl, rfl, trivial⟩ rfl
    · intro p hp
      rw [hcI]
      simp only [List.mem_cons, List.not_mem_nil, or_false] at hp
      rcases hp with rfl | rfl | rfl <;> (show Value.type _ ≠ Value.type _; decide)
    · rw [rowC_snoc hc]
      refine (hcr.mono fun a o ho _ => ho.up fun q hq => List.mem_append_right _ hq).append ?_
      exact CardsP.append (vs := [v]) (ws := [_]) (cs := [c]) (ds := [markC]) (hcv.mono fun a o ho _ => ho.up fun q hq => List.mem_append_right _ (hs q hq)) (.cons (c := markC) (t' := 0) (.inr (.tail _ (.tail _ (.head _)))) rfl rfl .nil)
  case done =>
    rintro m1 n1 g h1 tk ⟨rfl, hs, ra, rvs, hlr, hcr, hkn1⟩ F N
    rw [hdl, List.take_length] at hcr
    exact h h1 tk m1 n1 ra rvs F N hs hlr hcr hkn1
end Mine

namespace Mine
theorem neg_idx (lo : Option Int) {n : Nat} (hn : 0 < n) : Builtin.Str.strSliceIndices lo (some (-1 : Int)) 1 n = Builtin.Str.strSliceIndices lo (some ((n - 1 : Nat) : Int)) 1 n := by
  have h2 : ((-1 : Int) + (n : Int)) = ((n - 1 : Nat) : Int) := by omega
  have h3 : ¬ (((n - 1 : Nat) : Int) < 0) := by omega
  have h4 : (-1 : Int) < 0 := by omega
  unfold Builtin.Str.strSliceIndices
  simp only [h4, h3, h2, if_true, if_false]
theorem neg_slice (lo : Option Int) {l : List Nat} (hn : 0 < l.length) : Txt.slice (T l) lo (some (-1 : Int)) = Txt.slice (T l) lo (some ((l.length - 1 : Nat) : Int)) := by
  unfold Txt.slice
  rw [T_len, neg_idx lo hn]
theorem T_slice_neg {l : List Nat} {i : Nat} (hi : i < l.length) : Txt.slice (T l) (some (i : Int)) (some (-1 : Int)) = T ((l.drop i).dropLast) := by
  rw [neg_slice _ (by omega), T_slice (by omega) (by omega)]
  congr 1
  rw [List.dropLast_eq_take, List.length_drop]
  congr 1
  omega
theorem T_slice_to_neg {l : List Nat} (hi : 0 < l.length) : Txt.slice (T l) none (some (-1 : Int)) = T l.dropLast := by
  rw [neg_slice _ hi, T_slice_to (by omega), List.dropLast_eq_take]
theorem T_sw {l : List Nat} : Txt.startswith (T l) (Str.ofString "\"") = (l.head? == some 34) := by
  rw [mk_eq]
  cases l with
  | nil => rfl
  | cons a r =>
    have e : (decide (0 + 1 ≤ (T (a :: r)).length) && ((a :: r).toArray.extract 0 (0 + 1) == #[34])) = ((a :: r).head? == some 34) := by
      rw [T_len]
      simp
    exact e
theorem T_ew {l : List Nat} : Txt.endswith (T l) (Str.ofString "\"") = (l.getLast? == some 34) := by
  rw [mk_eq]
  rcases List.eq_nil_or_concat l with rfl | ⟨r, a, rfl⟩
  · rfl
  · rw [List.concat_eq_append]
    have e : (decide (0 + 1 ≤ (T (r ++ [a])).length) && ((r ++ [a]).toArray.extract ((T (r ++ [a])).length - 1) ((T (r ++ [a])).length - 1 + 1) == #[34])) = ((r ++ [a]).getLast? == some 34) := by
      rw [T_len]
      simp
    exact e
/-- strip_quotes by lists -/
def sqL (l : List Nat) : List Nat :=
  let m := if l.head? = some 34 then l.drop 1 else l
  if m.getLast? = some 34 then m.dropLast else m
theorem sqV_T (l : List Nat) : sqV (T l) = T (sqL l) := by
  unfold sqV sqBack sqFront sqL
  rw [T_sw]
  have e1 : (if (l.head? == some 34) = true then Txt.slice (T l) (some (1 : Int)) none else T l) = T (if l.head? = some 34 then l.drop 1 else l) := by
    by_cases h : l.head? = some 34
    · rw [if_pos (by simp [h]), if_pos h]
      have : 1 ≤ l.length := by cases l with
        | nil => simp at h
        | cons => simp
      exact T_slice_from (i := 1) this
    · rw [if_neg (by simp [h]), if_neg h]
  rw [e1]
  generalize (if l.head? = some 34 then l.drop 1 else l) = m
  rw [T_ew]
  by_cases h : m.getLast? = some 34
  · rw [if_pos (by simp [h])]
    dsimp only
    rw [if_pos h]
    have : 0 < m.length := by cases m with
      | nil => simp at h
      | cons => simp
    exact T_slice_to_neg this
  · rw [if_neg (by simp [h])]
    dsimp only
    rw [if_neg h]
end Mine

namespace Mine
set_option maxRecDepth 100000
def GoodC (c : Card) : Prop := ∃ k, k < 9 ∧ CardK k c
theorem good_form {c : Card} (h : GoodC c) : ∃ a ∈ letters, ∃ s ∈ sufs, ∃ v ∈ valsL, c = (T (a :: s), v) := by
  obtain ⟨k, hk, s, hs, h1, h2⟩ := h
  refine ⟨letters.getD k 0, ?_, s, hs, c.2, h2, by rw [← h1]⟩
  have : k = 0 ∨ k = 1 ∨ k = 2 ∨ k = 3 ∨ k = 4 ∨ k = 5 ∨ k = 6 ∨ k = 7 ∨ k = 8 := by omega
  rcases this with rfl | rfl | rfl | rfl | rfl | rfl | rfl | rfl | rfl <;> decide
theorem good_quiet0 : ∀ a ∈ letters, ∀ s ∈ sufs, ∀ v ∈ valsL, quiet false (cardL (T (a :: s), v)) = true := by decide +kernel
theorem good_quiet {c : Card} (h : GoodC c) : quiet false (cardL c) = true := by
  obtain ⟨a, ha, s, hs, v, hv, rfl⟩ := good_form h
  exact good_quiet0 a ha s hs v hv
theorem good_small {c : Card} (h : GoodC c) : Small c := by
  obtain ⟨a, ha, s, hs, v, hv, rfl⟩ := good_form h
  refine ⟨?_, fun x hx => ?_⟩
  · show (T (a :: s)).length ≤ 3
    rw [T_len]
    simp only [sufs, List.mem_cons, List.not_mem_nil, or_false] at hs
    rcases hs with rfl | rfl | rfl | rfl | rfl <;> simp
  · dsimp only at hx
    simp only [valsL, List.mem_cons, List.not_mem_nil, or_false] at hv
    rcases hv with rfl | rfl | rfl
    · cases hx
    · cases hx; decide
    · cases hx; decide
theorem good_v {c : Card} (h : GoodC c) : GoodV c := by
  refine ⟨(good_small h).1, fun x hx => ?_⟩
  obtain ⟨a, ha, s, hs, v, hv, rfl⟩ := good_form h
  dsimp only at hx
  simp only [valsL, List.mem_cons, List.not_mem_nil, or_false] at hv
  rcases hv with rfl | rfl | rfl
  · cases hx
  · cases hx; decide
  · cases hx; decide
theorem cardL_form (c : Card) : ∃ mid, cardL c = 59 :: (mid ++ [32]) := ⟨32 :: (c.1.cps.toList ++ (valL c.2 ++ [59])), by simp [cardL]⟩
theorem join_row (D : List Card) : Txt.join (Str.ofString "; ") ((rowC D).map cardJ) = T (lawL [34] D) := by
  show Builtin.Str.glued _ _ = _
  rw [StrLaws.glued_eq_join]
  have e1 : Str.ofString "; " = T [59, 32] := by decide
  have e2 : Str.ofString "=" = T [61] := by decide
  rw [e1]
  induction D with
  | nil => rfl
  | cons c D ih =>
    have h1 : (rowC (c :: D)).map cardJ = cardJ markC :: cardJ c :: (rowC D).map cardJ := by simp [rowC]
    have h2 : ∃ y r, (rowC D).map cardJ = y :: r := ⟨_, _, rfl⟩
    obtain ⟨y, r, h2⟩ := h2
    rw [h1]
    show cardJ markC ++ T [59, 32] ++ Str.join (T [59, 32]) (cardJ c :: (rowC D).map cardJ) = _
    have h3 : Str.join (T [59, 32]) (cardJ c :: (rowC D).map cardJ) = cardJ c ++ T [59, 32] ++ Str.join (T [59, 32]) ((rowC D).map cardJ) := by rw [h2]; rfl
    rw [h3, ih]
    have h4 : cardJ c = T (c.1.cps.toList ++ valL c.2) := by
      obtain ⟨k, v⟩ := c
      cases v with
      | none => simp only [cardJ, valL]; rw [T_eta k]; simp
      | some v => simp only [cardJ, e2, valL]; rw [T_eta k, T_eta v, T_app, T_app]; simp
    have h5 : cardJ markC = T [34] := rfl
    rw [h4, h5, T_app, T_app, T_app, T_app, T_inj]
    simp [lawL, cardL]
theorem lawL_chain (D : List Card) : lawL [34] D = 34 :: chain (D.map cardL) := by
  simp [lawL, chain, List.flatMap_map]
theorem chain_append (a b : List (List Nat)) : chain (a ++ b) = chain a ++ chain b := by simp [chain]
/-- what strip_quotes makes of the header and of its bent kin -/
theorem sq_facts {D : List Card} (hD : D ≠ []) : let X := lawL [34] D; let I := (X.drop 1).dropLast
    0 < X.length ∧ sqL X = I ∧ sqL (X.drop 1) = I ∧ sqL X.dropLast = I ∧ sqL (34 :: (X ++ [34])) = X ∧ sqL (39 :: (I ++ [39])) = 39 :: (I ++ [39]) := by
  rcases List.eq_nil_or_concat D with rfl | ⟨D', d, rfl⟩
  · exact absurd rfl hD
  obtain ⟨md, hmd⟩ := cardL_form d
  have hX : lawL [34] (D'.concat d) = 34 :: (chain (D'.map cardL) ++ (cardL d ++ [34])) := by
    rw [lawL_chain, List.concat_eq_append, List.map_append, chain_append]
    simp [chain]
  have hH : (chain (D'.map cardL) ++ (cardL d ++ [34])).head? = some 59 := by
    cases D' with
    | nil => simp [chain, hmd]
    | cons c r => obtain ⟨mc, hmc⟩ := cardL_form c; simp [chain, hmc]
  have hI : (((lawL [34] (D'.concat d)).drop 1).dropLast) = chain (D'.map cardL) ++ cardL d := by
    rw [hX, List.drop_one, List.tail_cons, ← List.append_assoc, List.dropLast_concat]
  have hlI : (chain (D'.map cardL) ++ cardL d).getLast? = some 32 := by rw [hmd, ← List.cons_append, ← List.append_assoc, List.getLast?_concat]
  dsimp only
  rw [hI]
  refine ⟨by rw [hX]; simp, ?_, ?_, ?_, ?_, ?_⟩
  · rw [hX]; unfold sqL
    simp only [List.head?_cons, if_true, List.drop_one, List.tail_cons]
    rw [← List.append_assoc, if_pos (by simp), List.dropLast_concat]
  · rw [hX]; unfold sqL
    simp only [List.drop_one, List.tail_cons, hH]
    rw [if_neg (by decide : ¬ (some 59 = some 34))]
    rw [← List.append_assoc, if_pos (by simp), List.dropLast_concat]
  · rw [hX]; unfold sqL
    have : (34 :: (chain (D'.map cardL) ++ (cardL d ++ [34]))).dropLast = 34 :: (chain (D'.map cardL) ++ cardL d) := by
      rw [← List.append_assoc, ← List.cons_append, List.dropLast_concat]
    rw [this]
    simp only [List.head?_cons, if_true, List.drop_one, List.tail_cons, hlI]
    rw [if_neg (by decide)]
  · generalize lawL [34] (D'.concat d) = X
    unfold sqL
    simp only [List.head?_cons, if_true, List.drop_one, List.tail_cons]
    rw [if_pos (by simp), List.dropLast_concat]
  · generalize chain (D'.map cardL) ++ cardL d = X
    unfold sqL
    have h1 : ¬ (39 :: (X ++ [39])).head? = some 34 := by simp
    have h2 : ¬ (39 :: (X ++ [39])).getLast? = some 34 := by rw [← List.cons_append, List.getLast?_concat]; simp
    dsimp only
    rw [if_neg h1, if_neg h2]
end Mine

namespace Mine
set_option maxRecDepth 100000
theorem join_empty (l : List Str) : Txt.join (Str.ofString "") l = T (l.flatMap fun y => y.cps.toList) := by
  show Builtin.Str.glued _ _ = _
  rw [StrLaws.glued_eq_join, show Str.ofString "" = T [] by decide]
  induction l with
  | nil => rfl
  | cons a r ih =>
    cases r with
    | nil => show a = _; rw [T_eta a]; simp
    | cons b r =>
      show a ++ T [] ++ Str.join (T []) (b :: r) = _
      rw [ih, T_eta a, T_app, T_app, T_inj]; simp
theorem stripR_T (X : List Nat) : stripR (T X) = T (val X ((escs X 0 false).foldl (scanStep (T X)) (0, none, []))) := by
  unfold stripR scanAll
  rw [show (T X).cps.toList = X by simp]
  generalize (escs X 0 false).foldl (scanStep (T X)) (0, none, []) = st
  rw [join_empty, T_inj]
  unfold val
  by_cases h : st.1 < (T X).length
  · rw [if_pos h]
    rw [T_len] at h
    rw [T_slice_from (by omega)]
    simp
  · rw [if_neg h]
    rw [T_len] at h
    rw [List.drop_eq_nil_of_le (by omega)]
    simp
theorem stripV_yes {X : List Nat} (h : 34 ∈ X) : stripV (T X) = stripR (T X) := by
  unfold stripV
  rw [mk_eq, empty_one, if_neg (by simp [h])]
theorem stripV_no {X : List Nat} (h : 34 ∉ X) : stripV (T X) = T X := by
  unfold stripV
  rw [mk_eq, empty_one, if_pos (by simp [h])]
section
variable {D : List (List Nat)} {tl : List Nat} (hq : ∀ c ∈ D, quiet false c = true) (ht : quiet false tl = true)
include hq ht
theorem strip_text : stripV (T (34 :: (chain D ++ tl))) = T (RA true [] D tl) := by
  rw [stripV_yes (by simp), stripR_T]
  have := (scan_law (34 :: (chain D ++ tl)) tl ht D hq).2 [] [] [] rfl
  rw [fold_mark]
  rw [show scanStep (T (34 :: (chain D ++ tl))) (0, none, []) (0, Str.ofString "\"") = (0, some 0, []) by unfold scanStep; simp]
  simp only [List.length_nil, Nat.add_zero, List.flatMap_nil, List.nil_append] at this
  rw [← this]
theorem strip_inner (hm : 34 ∈ chain D ++ tl) : stripV (T (chain D ++ tl)) = T (RA false [] D tl) := by
  rw [stripV_yes hm, stripR_T]
  have := (scan_law (chain D ++ tl) tl ht D hq).1 [] [] [] rfl
  simp only [List.length_nil, Nat.add_zero, List.flatMap_nil, List.nil_append] at this
  rw [← this]
theorem strip_left : stripV (T (92 :: 92 :: 34 :: (chain D ++ tl))) = T (RA true [92, 92] D tl) := by
  rw [stripV_yes (by simp), stripR_T]
  have := (scan_law (92 :: 92 :: 34 :: (chain D ++ tl)) tl ht D hq).2 [] [92, 92] [] rfl
  have h1 := fold_quiet (T (92 :: 92 :: 34 :: (chain D ++ tl))) [92, 92] false (34 :: (chain D ++ tl)) 0 (0, none, []) (by decide)
  rw [show (92 :: 92 :: 34 :: (chain D ++ tl)) = [92, 92] ++ 34 :: (chain D ++ tl) from rfl] at *
  rw [h1, fold_mark]
  rw [show scanStep (T ([92, 92] ++ 34 :: (chain D ++ tl))) (0, none, []) (0 + [92, 92].length, Str.ofString "\"") = (0, some 2, []) by unfold scanStep; simp]
  simp only [List.length_nil, List.length_cons, Nat.zero_add, List.flatMap_nil, List.nil_append] at this ⊢
  rw [← this]
theorem strip_bent : stripV (T (92 :: 34 :: (chain D ++ tl))) = T (RA false [92, 34] D tl) := by
  rw [stripV_yes (by simp), stripR_T]
  have := (scan_law (92 :: 34 :: (chain D ++ tl)) tl ht D hq).1 [] [92, 34] [] rfl
  have h1 := fold_quiet (T (92 :: 34 :: (chain D ++ tl))) [92, 34] false (chain D ++ tl) 0 (0, none, []) (by decide)
  rw [show (92 :: 34 :: (chain D ++ tl)) = [92, 34] ++ (chain D ++ tl) from rfl] at *
  rw [h1]
  simp only [List.length_nil, List.length_cons, Nat.zero_add, List.flatMap_nil, List.nil_append] at this ⊢
  rw [← this]
end
def ev {α : Type} : List α → List α
  | [] => []
  | [a] => [a]
  | a :: _ :: r => a :: ev r
def od {α : Type} : List α → List α
  | [] => []
  | [_] => []
  | _ :: b :: r => b :: od r
theorem ev_map {α β : Type} (f : α → β) : ∀ l : List α, ev (l.map f) = (ev l).map f
  | [] => rfl
  | [_] => rfl
  | _ :: _ :: r => by simp [ev, ev_map f r]
theorem od_map {α β : Type} (f : α → β) : ∀ l : List α, od (l.map f) = (od l).map f
  | [] => rfl
  | [_] => rfl
  | _ :: _ :: r => by simp [od, od_map f r]
theorem ev_mem {α : Type} {x : α} : ∀ {l : List α}, x ∈ ev l → x ∈ l
  | [], h => h
  | [_], h => h
  | a :: b :: r, h => by
    rcases List.mem_cons.mp h with rfl | h
    · exact .head _
    · exact .tail _ (.tail _ (ev_mem h))
theorem od_mem {α : Type} {x : α} : ∀ {l : List α}, x ∈ od l → x ∈ l
  | [], h => nomatch h
  | [_], h => nomatch h
  | a :: b :: r, h => by
    rcases List.mem_cons.mp h with rfl | h
    · exact .tail _ (.head _)
    · exact .tail _ (.tail _ (od_mem h))
/-- what is left of an odd deck -/
theorem RA_odd : ∀ (D : List (List Nat)) (p tl : List Nat), D.length % 2 = 1 → RA false p D [] = p ++ (ev D).flatten ++ [34] ∧ RA true p D tl = p ++ (od D).flatten ++ tl
  | [], _, _, h => by simp at h
  | [a], p, tl, _ => by simp [RA, ev, od]
  | [_, _], _, _, h => by simp at h
  | a :: b :: c :: r, p, tl, h => by
    have hr : (c :: r).length % 2 = 1 := by simp at h ⊢; omega
    have h1 := RA_odd (c :: r) [] tl hr
    constructor
    · rw [RA, RA, h1.1]; simp [ev]
    · rw [RA]
      have h2 : RA false [] (b :: c :: r) tl = RA true b (c :: r) tl := by rw [RA]; rfl
      rw [h2, (RA_odd (c :: r) b tl hr).2]
      simp [od]
theorem RA_even : ∀ (D : List (List Nat)) (p tl : List Nat), D.length % 2 = 0 → RA false p D tl = p ++ (ev D).flatten ++ tl
  | [], p, tl, _ => by simp [RA, ev]
  | [a], p, tl, h => by simp at h
  | a :: b :: r, p, tl, h => by
    have h1 := RA_even r [] tl (by simp at h ⊢; omega)
    rw [RA, RA, h1]
    simp [ev]
theorem RA_even_true : ∀ (D : List (List Nat)) (p tl : List Nat), D.length % 2 = 0 → D ≠ [] → RA true p D tl = p ++ (od D).flatten ++ 34 :: tl
  | [], _, _, _, h => absurd rfl h
  | [a], p, tl, h, _ => by simp at h
  | [a, b], p, tl, _, _ => by simp [RA, od]
  | [_, _, _], _, _, h, _ => by simp at h
  | a :: b :: c :: d :: r, p, tl, h, _ => by
    have h1 := RA_even_true (c :: d :: r) b tl (by simp at h ⊢; omega) (by simp)
    rw [RA]
    have h2 : RA false [] (b :: c :: d :: r) tl = RA true b (c :: d :: r) tl := by rw [RA]; rfl
    rw [h2, h1]
    simp [od]
end Mine

namespace Mine
set_option maxRecDepth 100000
theorem lawL_nil (cs : List Card) : lawL [] cs = (cs.map cardL).flatten := by
  simp [lawL, List.flatMap_def]
theorem good_map {D : List Card} (hg : ∀ c ∈ D, GoodC c) : ∀ x ∈ D.map cardL, quiet false x = true := by
  intro x hx
  obtain ⟨c, hc, rfl⟩ := List.mem_map.mp hx
  exact good_quiet (hg c hc)
section
variable {D : List Card} (hg : ∀ c ∈ D, GoodC c) (ho : D.length % 2 = 1) (h3 : 3 ≤ D.length)
include hg ho h3
theorem law_seconds : stripV (T (lawL [34] D)) = T (lawL [] (od D)) := by
  have := strip_text (D := D.map cardL) (tl := []) (good_map hg) rfl
  rw [List.append_nil] at this
  rw [lawL_chain, this, (RA_odd _ _ _ (by simpa using ho)).2, lawL_nil, od_map]
  simp
theorem split_last : ∃ D' d, D = D' ++ [d] ∧ D'.length % 2 = 0 ∧ D' ≠ [] ∧ ((lawL [34] D).drop 1).dropLast = chain (D'.map cardL) ++ cardL d ∧ (lawL [34] D).dropLast = 34 :: (chain (D'.map cardL) ++ cardL d) := by
  rcases List.eq_nil_or_concat D with rfl | ⟨D', d, rfl⟩
  · simp at h3
  refine ⟨D', d, List.concat_eq_append, by simp at ho; omega, by rintro rfl; simp at h3, ?_⟩
  have hX : lawL [34] (D'.concat d) = 34 :: (chain (D'.map cardL) ++ (cardL d ++ [34])) := by
    rw [lawL_chain, List.concat_eq_append, List.map_append, chain_append]
    simp [chain]
  rw [hX]
  constructor
  · rw [List.drop_one, List.tail_cons, ← List.append_assoc, List.dropLast_concat]
  · rw [← List.append_assoc, ← List.cons_append, List.dropLast_concat]
theorem law_firsts : stripV (T ((lawL [34] D).drop 1).dropLast) = T (lawL [] (ev D)) := by
  obtain ⟨D', d, rfl, hev, hne, hI, -⟩ := split_last hg ho h3
  rw [hI]
  have hm : 34 ∈ chain (D'.map cardL) ++ cardL d := by
    cases D' with
    | nil => exact absurd rfl hne
    | cons c r => simp [chain]
  rw [strip_inner (good_map fun c hc => hg c (List.mem_append_left _ hc)) (good_quiet (hg d (by simp))) hm, RA_even _ _ _ (by simpa using hev), lawL_nil, ev_map]
  have : ∀ (l : List Card), l.length % 2 = 0 → ev (l ++ [d]) = ev l ++ [d] := by
    intro l
    induction l using ev.induct with
    | case1 => intro _; rfl
    | case2 a => intro h; simp at h
    | case3 a b r ih => intro h; simp [ev]; exact ih (by simp at h ⊢; omega)
  rw [this D' hev]
  simp
theorem law_left : stripV (T (92 :: 92 :: (lawL [34] D).dropLast)) = T (92 :: 92 :: (lawL [] (od D) ++ 34 :: lawL [] (D.drop (D.length - 1)))) := by
  obtain ⟨D', d, rfl, hev, hne, -, hX⟩ := split_last hg ho h3
  rw [hX, strip_left (good_map fun c hc => hg c (List.mem_append_left _ hc)) (good_quiet (hg d (by simp))), RA_even_true _ _ _ (by simpa using hev) (by simpa using hne), lawL_nil, lawL_nil, od_map]
  have : ∀ (l : List Card), l.length % 2 = 0 → od (l ++ [d]) = od l := by
    intro l
    induction l using od.induct with
    | case1 => intro _; rfl
    | case2 a => intro h; simp at h
    | case3 a b r ih => intro h; simp [od]; exact ih (by simp at h ⊢; omega)
  rw [this D' hev]
  simp
theorem law_bent : stripV (T (92 :: lawL [34] D)) = T (92 :: 34 :: (lawL [] (ev D) ++ [34])) := by
  have := strip_bent (D := D.map cardL) (tl := []) (good_map hg) rfl
  rw [List.append_nil] at this
  rw [lawL_chain, this, (RA_odd _ _ [] (by simpa using ho)).1, lawL_nil, ev_map]
  simp
end
/-- what a text is read as -/
theorem key_tok : ∀ a ∈ letters, ∀ s ∈ sufs, ∀ ch ∈ a :: s, ch ∈ tokCh := by decide
theorem reads_tok {c : Card} (hc : GoodC c) {l : List Nat} {cs : List Card} (h0 : l.getD 0 0 = 59) (h : Reads l cs) : Reads (c.1.cps.toList ++ (valL c.2 ++ l)) (c :: cs) := by
  obtain ⟨a, ha, s, hs, v, hv, rfl⟩ := good_form hc
  have hk := key_tok a ha s hs
  have e1 : (T (a :: s)).cps.toList = a :: s := by simp
  simp only [valsL, List.mem_cons, List.not_mem_nil, or_false] at hv
  rcases hv with rfl | rfl | rfl
  · exact Reads.bare (k := a :: s) (by simp) hk h0 h
  · exact Reads.val (k := a :: s) (v := [55]) (by simp) hk (.head _) h0 h
  · exact Reads.val (k := a :: s) (v := [126, 39]) (by simp) hk (.tail _ (.head _)) h0 h
theorem tok_head {c : Card} (hc : GoodC c) (l : List Nat) : (c.1.cps.toList ++ l).getD 0 0 ∈ tokCh := by
  obtain ⟨a, ha, s, hs, v, hv, rfl⟩ := good_form hc
  exact key_tok a ha s hs a (.head _)
theorem reads_go {tl : List Nat} {tc : List Card} (ht : Reads ([59, 32] ++ tl) tc) : ∀ (r : List Card), (∀ c ∈ r, GoodC c) → Reads ([59, 32] ++ (r.flatMap cardL ++ tl)) (r ++ tc)
  | [], _ => ht
  | c :: r, hg => by
    have ih := reads_go ht r fun c hc => hg c (.tail _ hc)
    have h1 := reads_tok (hg c (.head _)) (by rfl) ih
    have h2 := Reads.junk (j := [59, 32, 59, 32]) (by decide) (by decide) rfl (.inr (tok_head (hg c (.head _)) _)) h1
    have e : [59, 32] ++ ((c :: r).flatMap cardL ++ tl) = [59, 32, 59, 32] ++ (c.1.cps.toList ++ (valL c.2 ++ ([59, 32] ++ (r.flatMap cardL ++ tl)))) := by simp [cardL]
    rw [e]; exact h2
theorem reads_first {tl : List Nat} {tc : List Card} (ht : Reads ([59, 32] ++ tl) tc) {c : Card} {r : List Card} (hg : ∀ x ∈ c :: r, GoodC x) : Reads ((c :: r).flatMap cardL ++ tl) (c :: r ++ tc) := by
  have ih := reads_go ht r fun c hc => hg c (.tail _ hc)
  have h1 := reads_tok (hg c (.head _)) (by rfl) ih
  have h2 := Reads.junk (j := [59, 32]) (by decide) (by decide) rfl (.inr (tok_head (hg c (.head _)) _)) h1
  have e : (c :: r).flatMap cardL ++ tl = [59, 32] ++ (c.1.cps.toList ++ (valL c.2 ++ ([59, 32] ++ (r.flatMap cardL ++ tl)))) := by simp [cardL]
  rw [e]; exact h2
theorem reads_end : Reads ([59, 32] ++ []) [] := Reads.junk (j := [59, 32]) (l := []) (by decide) (by decide) rfl (.inl rfl) .done
theorem reads_law {cs : List Card} (hg : ∀ c ∈ cs, GoodC c) (hne : cs ≠ []) : Reads (lawL [] cs) cs := by
  cases cs with
  | nil => exact absurd rfl hne
  | cons c r =>
    have := reads_first reads_end hg
    rw [List.append_nil, List.append_nil] at this
    have e : lawL [] (c :: r) = (c :: r).flatMap cardL := by simp [lawL]
    rw [e]; exact this
abbrev bsC : Card := (T [92, 92], none)
theorem reads_left {cs : List Card} {d : Card} (hg : ∀ c ∈ cs, GoodC c) (hne : cs ≠ []) (hd : GoodC d) : Reads (92 :: 92 :: (lawL [] cs ++ 34 :: lawL [] [d])) (bsC :: (cs ++ [markC, d])) := by
  cases cs with
  | nil => exact absurd rfl hne
  | cons c r =>
    have h1 : Reads (lawL [] [d]) [d] := reads_law (fun c hc => by rw [List.mem_singleton.mp hc]; exact hd) (by simp)
    have e0 : (lawL [] [d]).getD 0 0 = 59 := by simp [lawL, cardL]
    have h2 : Reads ([34] ++ lawL [] [d]) [markC, d] := Reads.bare (k := [34]) (by decide) (by decide) e0 h1
    have h3 : Reads ([59, 32] ++ ([34] ++ lawL [] [d])) [markC, d] := Reads.junk (by decide) (by decide) rfl (.inr (by show 34 ∈ tokCh; decide)) h2
    have h4 := reads_first h3 hg
    have e1 : lawL [] (c :: r) = (c :: r).flatMap cardL := by simp [lawL]
    rw [e1]
    exact Reads.bare (k := [92, 92]) (l := (c :: r).flatMap cardL ++ ([34] ++ lawL [] [d])) (by decide) (by decide) (by simp [cardL]) h4
/-- the deck by its places -/
def idx (many t w : Nat) : List Nat := (List.range many).map fun k => (2 ^ t * k + w) % many
def deckAt (cs : List Card) (many wish t : Nat) : List Card := (idx many t (wish % 2 ^ t)).map fun i => cs.getD i (T [], none)
theorem idx_step : ∀ many ∈ [5, 7, 9], ∀ t ∈ [0, 1, 2, 3], ∀ w ∈ List.range (2 ^ t), idx many (t + 1) w = ev (idx many t w) ++ od (idx many t w) ∧ idx many (t + 1) (w + 2 ^ t) = od (idx many t w) ++ ev (idx many t w) := by decide +kernel
theorem deck_step {cs : List Card} {many wish t : Nat} (hm : many = 5 ∨ many = 7 ∨ many = 9) (ht : t < 4) :
    deckAt cs many wish (t + 1) = if wish / 2 ^ t % 2 = 0 then ev (deckAt cs many wish t) ++ od (deckAt cs many wish t) else od (deckAt cs many wish t) ++ ev (deckAt cs many wish t) := by
  have hmm : many ∈ [5, 7, 9] := by simp; omega
  have htt : t ∈ [0, 1, 2, 3] := by simp; omega
  have hw : wish % 2 ^ t ∈ List.range (2 ^ t) := List.mem_range.mpr (Nat.mod_lt _ (Nat.two_pow_pos t))
  obtain ⟨h1, h2⟩ := idx_step many hmm t htt _ hw
  have hp : wish % 2 ^ (t + 1) = wish % 2 ^ t + 2 ^ t * (wish / 2 ^ t % 2) := by rw [Nat.pow_succ, Nat.mod_mul]
  unfold deckAt
  rw [ev_map, od_map, ← List.map_append, ← List.map_append, hp]
  by_cases hb : wish / 2 ^ t % 2 = 0
  · rw [if_pos hb, hb, Nat.mul_zero, Nat.add_zero (wish % 2 ^ t), h1]
  · have : wish / 2 ^ t % 2 = 1 := by omega
    rw [if_neg hb, this, Nat.mul_one, h2]
theorem deck_zero {cs : List Card} {many wish : Nat} (h : cs.length = many) : deckAt cs many wish 0 = cs := by
  unfold deckAt idx
  apply List.ext_getElem?
  intro i
  by_cases hi : i < many
  · simp [List.getElem?_range hi, Nat.mod_one, Nat.mod_eq_of_lt hi, List.getElem?_eq_getElem (h ▸ hi : i < cs.length)]
  · simp [List.getElem?_eq_none (by omega : cs.length ≤ i)]
    omega
theorem deck_len (cs : List Card) (many wish t : Nat) : (deckAt cs many wish t).length = many := by simp [deckAt, idx]
theorem deck_good {cs : List Card} {many wish t : Nat} (hm : 0 < many) (h9 : many ≤ 9) (hd : DeckOk many cs) : ∀ c ∈ deckAt cs many wish t, GoodC c := by
  intro c hc
  obtain ⟨i, hi, rfl⟩ := List.mem_map.mp hc
  obtain ⟨k, hk, rfl⟩ := List.mem_map.mp hi
  have hlt : (2 ^ t * k + wish % 2 ^ t) % many < many := Nat.mod_lt _ hm
  refine ⟨_, Nat.lt_of_lt_of_le hlt h9, hd.2 _ _ ?_⟩
  rw [List.getD_eq_getElem?_getD, List.getElem?_eq_getElem (by rw [hd.1]; exact hlt)]
  rfl
end Mine

namespace Mine
set_option maxRecDepth 100000
local macro_rules | `(tactic| walk_at "eval Name") => `(tactic| first | (refine gnameX (by assumption) (by assumption) (by rfl) ?_) | (refine bnameX (by assumption) (by assumption) (by decide) (by first | exact bb_len | exact bb_sum | exact bb_range) ?_) | (refine nameX_L (by assumption) (by rfl) ?_) | (refine nameX_C (by assumption) (by rfl) (by repeat (first | assumption | apply List.mem_cons_of_mem)) (by assumption) ?_))
local macro_rules | `(tactic| walk_at "storeName") => `(tactic| first | (refine storeX_L (by assumption) (by assumption) ?_; intro _ _ _) | (refine storeC (by assumption) (by assumption) (by rfl) (by repeat (first | assumption | apply List.mem_cons_of_mem)) (by assumption) ?_; intro _ _ _ _ _))
local macro_rules | `(tactic| walk_at "callWith ref") => `(tactic| (refine callWith_st (by assumption) (by rfl) ?_))
local macro_rules | `(tactic| walk_at "call type:range") => `(tactic| refine Hold.intro ?_)
local macro_rules | `(tactic| walk_at "subscriptTail") => `(tactic| ((with_reducible show wpAny _ _ (subscriptTail _ _ (Value.ref _) _) _ _ _); refine Hold.intro ?_))
local macro_rules | `(tactic| walk_at "call builtin:sum") => `(tactic| refine Hold.intro ?_)
local macro_rules | `(tactic| walk_at "call builtin:len") => `(tactic| refine Hold.intro ?_)
local macro_rules | `(tactic| walk_at "call ref") => `(tactic| refine Hold.intro ?_)
local macro_rules | `(tactic| walk_at "binaryOp Pow int int") => `(tactic| refine Hold.intro ?_)
local macro_rules | `(tactic| walk_at "binaryOp Mod") => `(tactic| refine Hold.intro ?_)
local macro_rules | `(tactic| walk_at "binaryOp Add ref ref") => `(tactic| refine Hold.intro ?_)

local macro_rules | `(tactic| walk_at "execs cons") => `(tactic| ((with_reducible show wpAny _ _ (execs (Stmt.For _ _ _ _ _ :: _) _) _ _ _); refine Hold.intro ?_))
theorem LstP.now {h₀ h : Heap} {L a : Addr} {m : Map} {n n' : Led} {vs : List Value} (x : LstP (Sto h₀ n) a vs) (F : Fr h₀ L h m) (N : News h₀ L h n') (hs : ∀ q ∈ n, q ∈ n') : h.IsList a vs.toArray := (x.mono fun _ _ ho _ => ho.get F N hs).at
theorem CardsP.now {h₀ h : Heap} {L : Addr} {m : Map} {n n' : Led} {vs : List Value} {cs : List Card} (x : CardsP (Sto h₀ n) vs cs) (F : Fr h₀ L h m) (N : News h₀ L h n') (hs : ∀ q ∈ n, q ∈ n') : CardsAt h vs cs := (x.mono fun _ _ ho _ => ho.get F N hs).at
theorem rowC_good {D : List Card} (hg : ∀ c ∈ D, GoodC c) : ∀ c ∈ rowC D, GoodV c := by
  intro c hc
  have hm : GoodV markC := ⟨by decide, fun v h => by cases h⟩
  rcases List.mem_cons.mp hc with rfl | hc
  · exact hm
  · obtain ⟨d, hd, hc⟩ := List.mem_flatMap.mp hc
    simp only [List.mem_cons, List.not_mem_nil, or_false] at hc
    rcases hc with rfl | rfl
    · exact good_v (hg _ hd)
    · exact hm
theorem rowC_len (D : List Card) : (rowC D).length = 1 + 2 * D.length := by
  unfold rowC
  have : ∀ l : List Card, (l.flatMap fun c => [c, markC]).length = 2 * l.length := by
    intro l
    induction l with
    | nil => rfl
    | cons a l ih => simp [ih]; omega
  rw [List.length_cons, this]; omega
theorem lawL_len {mk : List Nat} (hm : mk.length ≤ 1) {D : List Card} (hg : ∀ c ∈ D, GoodC c) (h9 : D.length ≤ 9) : (lawL mk D).length ≤ 100 := by
  have := lawFold_len (mark := T mk) (by rw [T_len]; exact hm) (fun c hc => good_small (hg c hc)) h9
  rwa [lawFold_T, T_len] at this
theorem lawL_pos {D : List Card} (hD : D ≠ []) : 5 < (lawL [34] D).length := by
  cases D with
  | nil => exact absurd rfl hD
  | cons c r => simp [lawL, cardL]; omega
theorem T_slice_1neg {l : List Nat} (h : 1 < l.length) : Txt.slice (T l) (some (1 : Int)) (some (-1 : Int)) = T (l.drop 1).dropLast := T_slice_neg (i := 1) h
theorem T_slice_1 {l : List Nat} (h : 1 ≤ l.length) : Txt.slice (T l) (some (1 : Int)) none = T (l.drop 1) := T_slice_from (i := 1) h
theorem ne_self {x : Str} (h : (x != x) = true) : False := by simp at h
set_option maxHeartbeats 4000000 in
theorem seg_text {w : World} {A : Around} {s : Shared} {h₀ : Heap} {L : Addr} {mg mb m : Map} {n : Led} {ca da ra many wish : Nat} {cvs dvs rvs : List Value} {cs D : List Card} {tv uv : Value} {Q : Flow → Shared → Prop}
    (S : Stat mg mb h₀) (PT : Pats h₀) (hd : A.depth + 20 < recursionLimit) (hh : A.handled = none) (F : Fr h₀ L s.heap m) (N : News h₀ L s.heap n) (st : LawSt h₀ L n ca da cvs dvs cs D many wish)
    (hlr : LstP (Sto h₀ n) ra rvs) (hcr : CardsP (Sto h₀ n) rvs (rowC D)) (hg : ∀ c ∈ D, GoodC c) (h9 : D.length ≤ 9) (hne : D ≠ [])
    (hkn : Kn m [(Str.ofString "row", .ref ra), (Str.ofString "deck", .ref da), (Str.ofString "turns", tv), (Str.ofString "turn", uv)])
    (h : ∀ h' tk m' t1 t2, Fr h₀ L h' m' → News h₀ L h' n → Kn m' [(Str.ofString "text", .str (T (lawL [34] D)) t1), (Str.ofString "inner", .str (T ((lawL [34] D).drop 1).dropLast) t2), (Str.ofString "deck", .ref da), (Str.ofString "turns", tv), (Str.ofString "turn", uv)] →
      wpAny (model pw w) A (execs (turnB.drop 5) (lawX L)) Q (fun _ _ => False) { s with heap := h', toks := tk }) :
    wpAny (model pw w) A (execs (turnB.drop 2) (lawX L)) Q (fun _ _ => False) s := by
  obtain ⟨bd, hbd⟩ : ∃ b, b = turnB := ⟨_, rfl⟩
  rw [← hbd] at h ⊢
  conv at hbd => rhs; whnf
  subst hbd
  dsimp only [List.drop] at h ⊢
  replace F := Fr.kn F hkn
  dsimp only [over] at F
  have hXl := lawL_len (mk := [34]) (by decide) hg h9
  have hX0 := (sq_facts hne).1
  have hTX : (T (lawL [34] D)).length ≤ 300 := by rw [T_len]; omega
  have hTI : (T ((lawL [34] D).drop 1).dropLast).length ≤ 300 := by rw [T_len]; simp; omega
  repeat' walk1
  rename_i Fa Na
  refine wpAny_call (join_call (S.keeps Fa.keep) (PT.keeps Fa.keep) (by omega) hh (News.isList Na (.head _)) (hlr.now Fa Na fun q hq => .tail _ hq) (hcr.now Fa Na fun q hq => .tail _ hq) (rowC_good hg) (by simp [rowC]) (by rw [rowC_len]; omega) ?_)
  intro h1 tk1 t1 keep1
  rw [join_row]
  have F1 := Fr.more Fa keep1
  have N1 := News.sub (News.more' Na keep1) (n' := n) fun q hq => .tail _ hq
  clear Fa Na keep1
  repeat' walk1
  rename_i Fb Nb
  refine wpAny_call (sq_call (S.keeps Fb.keep) (by omega) hh hTX ?_)
  intro h2 tk2 t2 keep2
  rw [sqV_T, (sq_facts hne).2.1]
  have F2 := Fr.more Fb keep2
  have N2 := News.more' Nb keep2
  clear Fb Nb keep2 N1 F1
  repeat' walk1
  rename_i Fc Nc
  refine wpAny_call (law_text_call (cs := D) ((S.keeps Fc.keep).defs (122, 18, 121) (by decide)) (S.keeps Fc.keep).nolimit (by omega) hh (st.ld.now Fc Nc fun _ hq => hq) (st.cd.now Fc Nc fun _ hq => hq) (fun c hc => good_small (hg c hc)) h9 (by decide) ?_)
  intro h3 tk3 t3 keep3
  rw [mk34, lawFold_T]
  have F3 := Fr.more Fc keep3
  have N3 := News.more' Nc keep3
  clear Fc Nc keep3 N2 F2
  repeat' walk1
  · exact (ne_self (by assumption)).elim
  · rename_i hn _ _ _ _ _ _ _ hx
    rw [T_slice_1neg (by have := lawL_pos hne; omega)] at hx
    exact (ne_self hx).elim
  · rename_i Fz Nz _ _
    exact h _ _ _ t1 t2 Fz Nz ⟨rfl, rfl, rfl, rfl, rfl, trivial⟩
end Mine

namespace Mine
theorem for_loop {w : World} {A : Around} {E : Value → Shared → Prop} {s : Shared} {env : Env} {target : Expr} {body : List Stmt} {Q : Flow → Shared → Prop} {h₀ : Heap} {L : Addr} {m : Map} {news : Led} {l : Addr} {vs : List Value}
    (K : Nat → Map → Led → Array GenState → Prop) (hh : A.handled = none) (F : Fr h₀ L s.heap m) (N : News h₀ L s.heap news)
    (hl : ∀ i m₁ n₁ g h, K i m₁ n₁ g → Fr h₀ L h m₁ → News h₀ L h n₁ → h.IsList l vs.toArray)
    (hgo : ∀ (I : Addr) (j i : Nat) (v : Value) (s' : Shared) (E' : Value → Shared → Prop), vs[i]? = some v → s'.heap.IsListIter I l j → ∀ Q' : Unit → Shared → Prop, Q' () s' → wpAny (model pw w) A (letOwnedTupleGo target (.ref I) v) Q' E' s')
    (k0 : K 0 m news s.gens)
    (turn : ∀ (I : Addr) (oI : Obj) (i : Nat) (v : Value) m₁ n₁ g h tk, vs[i]? = some v → K i m₁ n₁ g → Fr h₀ L h m₁ → News h₀ L h ((I, oI) :: n₁) → (∀ p ∈ n₁, p.1 ≠ I) → oI.cls = .type "list_iterator" →
      wpAny (model pw w) A (assign target env v) (fun _ s₂ => wpAny (model pw w) A (execs body env) (fun f s₃ => match f with
        | .next | .cont => TurnEnd h₀ L (K (i + 1)) I oI s s₃
        | .brk => Q .next s₃
        | .ret v => Q (.ret v) s₃) E s₂) E { s with heap := h, toks := tk, gens := g })
    (done : ∀ m' n' g' h' tk', K vs.length m' n' g' → Fr h₀ L h' m' → News h₀ L h' n' → Q .next { s with heap := h', toks := tk', gens := g' })
    (hE : PassesOwn (model pw w) A env E := by passes_own) :
    wpAny (model pw w) A (pyIter (.ref l)) (fun it s₂ => codeAny (model pw w) A (.forLoop target it body [] env) (fun r s' => match r with | .ok f => Q f s' | .error e => cameBackBy (model pw w) A env E e s') s₂) E s := by
  have hl0 := hl 0 m news s.gens s.heap k0 F N
  refine wpAny_pyIter_list hl0 ?_
  generalize hI : s.heap.objs.size = I
  have hlI : ∀ i m₁ n₁ g h, K i m₁ n₁ g → Fr h₀ L h m₁ → News h₀ L h n₁ → h.IsList l vs.toArray := hl
  have hnI : h₀.get? I = none := by
    cases q : h₀.get? I with
    | none => rfl
    | some o => exact absurd (Heap.lt_size (F.keep _ _ q)) (by rw [hI]; exact Nat.lt_irrefl _)
  have hIL : I ≠ L := by
    obtain ⟨oL, _, _, hL, _⟩ := F.ns
    exact Nat.ne_of_gt (hI ▸ Heap.lt_size hL)
  have hlneI : l ≠ I := by
    obtain ⟨o, ho, _⟩ := hl0
    exact Nat.ne_of_lt (hI ▸ Heap.lt_size ho)
  refine codeAny_forLoop_any (fun k s' => ∃ h' tk' g' m' n' i, s' = { s with heap := h', toks := tk', gens := g' } ∧ h'.IsListIter I l i ∧ Fr h₀ L h' m' ∧ News h₀ L h' n' ∧ (∀ p ∈ n', p.1 ≠ I) ∧ K i m' n' g' ∧ i ≤ vs.length ∧ k = vs.length + 1 - i) ?_ (vs.length + 1)
    ⟨_, s.toks, s.gens, m, news, 0, rfl, ⟨_, by rw [← hI]; exact Heap.get?_push_size _ rfl, rfl, rfl⟩, F.push _, fun p hp => ⟨Heap.get?_push_of_some _ (N p hp).1, (N p hp).2⟩, (fun p hp => Nat.ne_of_lt (hI ▸ Heap.lt_size (N p hp).1)), k0, Nat.zero_le _, rfl⟩
  rintro k s' ⟨h', tk', g', m', n', i, rfl, hit, F', N', hne, hK, hi, rfl⟩
  have hl' := hl i m' n' g' h' hK F' N'
  by_cases hlt : i < vs.length
  · have hv : vs.toArray[i]? = some vs[i] := by simp [hlt]
    have hv' : vs[i]? = some vs[i] := by simp [hlt]
    refine wpAny_pyNext_list_item hit hl' hv fun h₁ hit₁ hs₁ => ?_
    obtain ⟨oI, hoI, hcI, hdI⟩ := id hit₁
    have F₁ : Fr h₀ L h₁ m' := F'.change hs₁ hIL hnI
    have N₁ : News h₀ L h₁ ((I, oI) :: n') := news_cons.mpr ⟨⟨hoI, hIL, hnI⟩, fun p hp => ⟨(hs₁.2 p.1 (hne p hp)).trans (N' p hp).1, (N' p hp).2⟩⟩
    refine hgo I (i + 1) i vs[i] { s with heap := h₁, toks := tk', gens := g' } _ hv' hit₁ _ ?_
    refine wpAny_passesOwn hE (wpAny_mono (turn I oI i vs[i] m' n' g' h₁ tk' hv' hK F₁ N₁ hne hcI) (fun _ s₂ h₂ => wpAny_passesOwn hE (wpAny_mono h₂ (fun f s₃ h₃ => ?_) fun _ _ e => e)) fun _ _ e => e)
    have fin : TurnEnd h₀ L (K (i + 1)) I oI s s₃ → ∃ k', k' < vs.length + 1 - i ∧ ∃ h' tk' g' m' n' j, s₃ = { s with heap := h', toks := tk', gens := g' } ∧ h'.IsListIter I l j ∧ Fr h₀ L h' m' ∧ News h₀ L h' n' ∧ (∀ p ∈ n', p.1 ≠ I) ∧ K j m' n' g' ∧ j ≤ vs.length ∧ k' = vs.length + 1 - j := by
      rintro ⟨h2, tk2, g2, m2, n2, e, F2, N2, hne2, hK2⟩
      obtain ⟨a, b⟩ := news_cons.mp N2
      exact ⟨vs.length + 1 - (i + 1), by omega, h2, tk2, g2, m2, n2, i + 1, e, ⟨oI, a.1, hcI, hdI⟩, F2, b, hne2, hK2, hlt, rfl⟩
    cases f with
    | ret v => exact h₃
    | brk => exact h₃
    | next => exact fin h₃
    | cont => exact fin h₃
  · have hin : i = vs.length := by omega
    subst hin
    refine wpAny_pyNext_list_end hh hit hl' (by simp) fun h₁ he₁ => wpAny_execs_nil ?_
    have F₁ : Fr h₀ L h₁ m' := ⟨F'.ns.extBut he₁ (Ne.symm hIL), fun b o e => he₁ b o (by rintro rfl; rw [hnI] at e; cases e) (F'.keep b o e), F'.above⟩
    exact done m' n' g' h₁ tk' hK F₁ fun p hp => ⟨he₁ _ _ (hne p hp) (N' p hp).1, (N' p hp).2⟩

end Mine

namespace Mine
set_option maxRecDepth 100000
local macro_rules | `(tactic| walk_at "eval Name") => `(tactic| first | (refine gnameX (by assumption) (by assumption) (by rfl) ?_) | (refine bnameX (by assumption) (by assumption) (by decide) (by first | exact bb_len | exact bb_sum | exact bb_range) ?_) | (refine nameX_L (by assumption) (by rfl) ?_) | (refine nameX_C (by assumption) (by rfl) (by repeat (first | assumption | apply List.mem_cons_of_mem)) (by assumption) ?_))
local macro_rules | `(tactic| walk_at "storeName") => `(tactic| first | (refine storeX_L (by assumption) (by assumption) ?_; intro _ _ _) | (refine storeC (by assumption) (by assumption) (by rfl) (by repeat (first | assumption | apply List.mem_cons_of_mem)) (by assumption) ?_; intro _ _ _ _ _))
local macro_rules | `(tactic| walk_at "callWith ref") => `(tactic| (refine callWith_st (by assumption) (by rfl) ?_))
local macro_rules | `(tactic| walk_at "call type:range") => `(tactic| refine Hold.intro ?_)
local macro_rules | `(tactic| walk_at "subscriptTail") => `(tactic| ((with_reducible show wpAny _ _ (subscriptTail _ _ (Value.ref _) _) _ _ _); refine Hold.intro ?_))
local macro_rules | `(tactic| walk_at "call builtin:sum") => `(tactic| refine Hold.intro ?_)
local macro_rules | `(tactic| walk_at "call builtin:len") => `(tactic| refine Hold.intro ?_)
local macro_rules | `(tactic| walk_at "call ref") => `(tactic| refine Hold.intro ?_)
local macro_rules | `(tactic| walk_at "binaryOp Pow int int") => `(tactic| refine Hold.intro ?_)
local macro_rules | `(tactic| walk_at "binaryOp Mod") => `(tactic| refine Hold.intro ?_)
local macro_rules | `(tactic| walk_at "binaryOp Add ref ref") => `(tactic| refine Hold.intro ?_)
local macro_rules | `(tactic| walk_at "pyIter ref") => `(tactic| refine Hold.intro ?_)
local macro_rules | `(tactic| walk_at "assign Tuple") => `(tactic| (with_reducible show wpAny _ _ (assign (Expr.Tuple _ _ _) _ (Value.ref _)) _ _ _); refine unpackN_ (by assumption) (by assumption) (by assumption) (by assumption) rfl rfl ?_; intro _ _ _)
local macro_rules | `(tactic| walk_at "execs cons") => `(tactic| ((with_reducible show wpAny _ _ (execs (Stmt.Assign [Expr.Name (Str.ofString "firsts") _] _ _ :: _) _) _ _ _); refine Hold.intro ?_))
def BentK (nB : Led) (g0 : Array GenState) (kn : List (Str × Value)) (_ : Nat) (m : Map) (n : Led) (g : Array GenState) : Prop := g = g0 ∧ (∀ q ∈ nB, q ∈ n) ∧ Kn m kn
theorem Kn.skip {m : Map} {x : Str} {v : Option Value} : ∀ {kn : List (Str × Value)}, Kn m kn → (∀ p ∈ kn, p.1 ≠ x) → Kn (fun y => if y = x then v else m y) kn
  | [], _, _ => trivial
  | (a, b) :: r, h, hx => ⟨(if_neg (hx (a, b) (.head _)) : (if a = x then v else m a) = m a).trans h.1, Kn.skip h.2 fun p hp => hx p (.tail _ hp)⟩
def forTgt : Stmt → Expr
  | .For t _ _ _ _ => t
  | _ => default
def bentS : Stmt := turnB.getD 5 (.Pass default)
set_option maxHeartbeats 4000000 in
theorem bent_loop {w : World} {A : Around} {s : Shared} {h₀ : Heap} {L : Addr} {mg mb m : Map} {n : Led} {kn : List (Str × Value)} {a0 a1 a2 a3 a4 : Addr} {b1 b2 b3 b4 d1 d2 d3 d4 : Str} {t1 t2 t3 t4 u1 u2 u3 u4 : Tok} {Q : Flow → Shared → Prop}
    (S : Stat mg mb h₀) (hd : A.depth + 20 < recursionLimit) (hh : A.handled = none) (F : Fr h₀ L s.heap m) (hkn : Kn m kn) (hfree : ∀ p ∈ kn, p.1 ≠ Str.ofString "bent" ∧ p.1 ≠ Str.ofString "due")
    (N : News h₀ L s.heap ((a0, lst #[.ref a1, .ref a2, .ref a3, .ref a4] 0) :: (a4, tupO [.str b4 t4, .str d4 u4]) :: (a3, tupO [.str b3 t3, .str d3 u3]) :: (a2, tupO [.str b2 t2, .str d2 u2]) :: (a1, tupO [.str b1 t1, .str d1 u1]) :: n))
    (e1 : sqV b1 = d1 ∧ b1.length ≤ 300) (e2 : sqV b2 = d2 ∧ b2.length ≤ 300) (e3 : sqV b3 = d3 ∧ b3.length ≤ 300) (e4 : sqV b4 = d4 ∧ b4.length ≤ 300)
    (h : ∀ h' tk m', Fr h₀ L h' m' → News h₀ L h' n → Kn m' kn → Q .next { s with heap := h', toks := tk }) :
    wpAny (model pw w) A (pyIter (.ref a0)) (fun it s₂ => codeAny (model pw w) A (.forLoop (forTgt bentS) it (forBody bentS) [] (lawX L)) (fun r s' => match r with | .ok f => Q f s' | .error e => cameBackBy (model pw w) A (lawX L) (fun _ _ => False) e s') s₂) (fun _ _ => False) s := by
  have hvs : ∀ (j : Nat) (v : Value), [Value.ref a1, .ref a2, .ref a3, .ref a4][j]? = some v → ∃ a bx dx tb td, v = .ref a ∧ (a, tupO [.str bx tb, .str dx td]) ∈ ((a0, lst #[.ref a1, .ref a2, .ref a3, .ref a4] 0) :: (a4, tupO [.str b4 t4, .str d4 u4]) :: (a3, tupO [.str b3 t3, .str d3 u3]) :: (a2, tupO [.str b2 t2, .str d2 u2]) :: (a1, tupO [.str b1 t1, .str d1 u1]) :: n) ∧ sqV bx = dx ∧ bx.length ≤ 300 := by
    intro j v hv
    have hj : j < 4 := by
      rcases Nat.lt_or_ge j 4 with q | q
      · exact q
      · rw [List.getElem?_eq_none (by simpa using q)] at hv; cases hv
    have : j = 0 ∨ j = 1 ∨ j = 2 ∨ j = 3 := by omega
    rcases this with rfl | rfl | rfl | rfl <;> (simp only [List.getElem?_cons_zero, List.getElem?_cons_succ, Option.some.injEq] at hv; subst hv)
    · exact ⟨a1, b1, d1, t1, u1, rfl, by simp, e1⟩
    · exact ⟨a2, b2, d2, t2, u2, rfl, by simp, e2⟩
    · exact ⟨a3, b3, d3, t3, u3, rfl, by simp, e3⟩
    · exact ⟨a4, b4, d4, t4, u4, rfl, by simp, e4⟩
  generalize hnB : ((a0, lst #[.ref a1, .ref a2, .ref a3, .ref a4] 0) :: (a4, tupO [.str b4 t4, .str d4 u4]) :: (a3, tupO [.str b3 t3, .str d3 u3]) :: (a2, tupO [.str b2 t2, .str d2 u2]) :: (a1, tupO [.str b1 t1, .str d1 u1]) :: n) = nB at N hvs
  have hm0 : (a0, lst #[.ref a1, .ref a2, .ref a3, .ref a4] 0) ∈ nB := by rw [← hnB]; exact .head _
  have hmn : ∀ q ∈ n, q ∈ nB := by rw [← hnB]; intro q hq; simp [hq]
  refine for_loop (h₀ := h₀) (vs := [.ref a1, .ref a2, .ref a3, .ref a4]) (BentK nB s.gens kn) hh F N ?lst ?go ⟨rfl, fun _ hq => hq, hkn⟩ ?turn ?done
  case lst => rintro i m n' g h ⟨_, hs, _⟩ F N; exact News.isList N (hs _ hm0)
  case go =>
    intro I j i v s' E' hv hit Q' h
    obtain ⟨a, bx, dx, tb, td, rfl, _⟩ := hvs _ _ hv
    exact wpAny_letOwnedTupleGo_listiter hit h
  case turn =>
    rintro I oI i v m1 n1 g h1 tk hv ⟨rfl, hs, hkn1⟩ F1 N1 hne hcI
    obtain ⟨a, bx, dx, tb, td, rfl, hmem, hsq, hbx⟩ := hvs _ _ hv
    have htup : IsTup h1 a #[.str bx tb, .str dx td] := News.isTup N1 (.tail _ (hs _ hmem))
    obtain ⟨tg, htg⟩ : ∃ b, b = forTgt bentS := ⟨_, rfl⟩
    obtain ⟨bd, hbd⟩ : ∃ b, b = forBody bentS := ⟨_, rfl⟩
    rw [← htg, ← hbd]
    conv at hbd => rhs; whnf
    conv at htg => rhs; whnf
    subst hbd htg
    repeat' walk1
    rename_i Fa Na
    refine wpAny_call (sq_call (S.keeps Fa.keep) (by omega) hh hbx ?_)
    intro h2 tk2 t2 keep2
    rw [hsq]
    have F2 := Fr.more Fa keep2
    have N2 := News.more' Na keep2
    clear Fa Na keep2
    repeat' walk1
    · exact (ne_self (by assumption)).elim
    · exact turn_end [] n1 F2 N2 (fun _ h => nomatch h) hne ⟨rfl, hs, Kn.skip (Kn.skip hkn1 fun p hp => (hfree p hp).1) fun p hp => (hfree p hp).2⟩ rfl
  case done =>
    rintro m1 n1 g h1 tk ⟨rfl, hs, hkn1⟩ F1 N1
    exact h h1 tk m1 F1 (News.sub N1 fun q hq => hs _ (hmn _ hq)) hkn1
set_option maxHeartbeats 4000000 in
theorem seg_bent {w : World} {A : Around} {s : Shared} {h₀ : Heap} {L : Addr} {mg mb m : Map} {n : Led} {X : List Nat} {t1 t2 : Tok} {dv tv uv : Value} {Q : Flow → Shared → Prop}
    (S : Stat mg mb h₀) (hd : A.depth + 20 < recursionLimit) (hh : A.handled = none) (F : Fr h₀ L s.heap m) (N : News h₀ L s.heap n)
    (hX : X.length ≤ 100) (hX0 : 5 < X.length) (q1 : sqL (X.drop 1) = (X.drop 1).dropLast) (q2 : sqL X.dropLast = (X.drop 1).dropLast) (q3 : sqL (34 :: (X ++ [34])) = X) (q4 : sqL (39 :: ((X.drop 1).dropLast ++ [39])) = 39 :: ((X.drop 1).dropLast ++ [39]))
    (hkn : Kn m [(Str.ofString "text", .str (T X) t1), (Str.ofString "inner", .str (T (X.drop 1).dropLast) t2), (Str.ofString "deck", dv), (Str.ofString "turns", tv), (Str.ofString "turn", uv)])
    (h : ∀ h' tk m', Fr h₀ L h' m' → News h₀ L h' n → Kn m' [(Str.ofString "text", .str (T X) t1), (Str.ofString "inner", .str (T (X.drop 1).dropLast) t2), (Str.ofString "deck", dv), (Str.ofString "turns", tv), (Str.ofString "turn", uv)] →
      wpAny (model pw w) A (execs (turnB.drop 6) (lawX L)) Q (fun _ _ => False) { s with heap := h', toks := tk }) :
    wpAny (model pw w) A (execs (turnB.drop 5) (lawX L)) Q (fun _ _ => False) s := by
  obtain ⟨bd, hbd⟩ : ∃ b, b = turnB := ⟨_, rfl⟩
  rw [← hbd] at h ⊢
  conv at hbd => rhs; whnf
  subst hbd
  dsimp only [List.drop] at h ⊢
  have F0 := F
  replace F := Fr.kn F hkn
  dsimp only [over] at F
  have hTX : (T X).length ≤ 300 := by rw [T_len]; omega
  have hTI : (T (X.drop 1).dropLast).length ≤ 300 := by rw [T_len]; simp; omega
  have hq1 : (Str.ofString "\"").length = 1 := by decide
  have hq2 : (Str.ofString "'").length = 1 := by decide
  walk1
  refine wpAny_For ?_ (by intro _; rfl)
  repeat' walk1
  rename_i Fe Ne
  refine bent_loop (n := n) (kn := [(Str.ofString "text", .str (T X) t1), (Str.ofString "inner", .str (T (X.drop 1).dropLast) t2), (Str.ofString "deck", dv), (Str.ofString "turns", tv), (Str.ofString "turn", uv)]) S hd hh Fe ⟨rfl, rfl, rfl, rfl, rfl, trivial⟩ ?_ Ne ?_ ?_ ?_ ?_ ?_
  · intro p hp
    simp only [List.mem_cons, List.not_mem_nil, or_false] at hp
    rcases hp with rfl | rfl | rfl | rfl | rfl <;> exact ⟨by show Str.ofString _ ≠ Str.ofString _; decide, by show Str.ofString _ ≠ Str.ofString _; decide⟩
  · rw [T_slice_1 (by omega), sqV_T, q1]
    exact ⟨rfl, by rw [T_len]; simp; omega⟩
  · rw [T_slice_to_neg (by omega), sqV_T, q2]
    exact ⟨rfl, by rw [T_len]; simp; omega⟩
  · rw [mk34, T_app, T_app, sqV_T, show [34] ++ X ++ [34] = 34 :: (X ++ [34]) by simp, q3]
    exact ⟨rfl, by rw [T_len]; simp; omega⟩
  · rw [show Str.ofString "'" = T [39] by decide, T_app, T_app, sqV_T, show [39] ++ (X.drop 1).dropLast ++ [39] = 39 :: ((X.drop 1).dropLast ++ [39]) by simp, q4]
    exact ⟨rfl, by rw [T_len]; simp; omega⟩
  · intro h' tk m' F' N' k'
    repeat' walk1
    exact h h' tk m' F' N' k'
end Mine

namespace Mine
set_option maxRecDepth 100000
local macro_rules | `(tactic| walk_at "eval Name") => `(tactic| first | (refine gnameX (by assumption) (by assumption) (by rfl) ?_) | (refine bnameX (by assumption) (by assumption) (by decide) (by first | exact bb_len | exact bb_sum | exact bb_range) ?_) | (refine nameX_L (by assumption) (by rfl) ?_) | (refine nameX_C (by assumption) (by rfl) (by repeat (first | assumption | apply List.mem_cons_of_mem)) (by assumption) ?_))
local macro_rules | `(tactic| walk_at "storeName") => `(tactic| first | (refine storeX_L (by assumption) (by assumption) ?_; intro _ _ _) | (refine storeC (by assumption) (by assumption) (by rfl) (by repeat (first | assumption | apply List.mem_cons_of_mem)) (by assumption) ?_; intro _ _ _ _ _))
local macro_rules | `(tactic| walk_at "callWith ref") => `(tactic| (refine callWith_st (by assumption) (by rfl) ?_))
local macro_rules | `(tactic| walk_at "call type:range") => `(tactic| refine Hold.intro ?_)
local macro_rules | `(tactic| walk_at "subscriptTail") => `(tactic| ((with_reducible show wpAny _ _ (subscriptTail _ _ (Value.ref _) _) _ _ _); refine Hold.intro ?_))
local macro_rules | `(tactic| walk_at "call builtin:sum") => `(tactic| refine Hold.intro ?_)
local macro_rules | `(tactic| walk_at "call builtin:len") => `(tactic| refine Hold.intro ?_)
local macro_rules | `(tactic| walk_at "call ref") => `(tactic| refine Hold.intro ?_)
local macro_rules | `(tactic| walk_at "binaryOp Pow int int") => `(tactic| refine Hold.intro ?_)
local macro_rules | `(tactic| walk_at "binaryOp Mod") => `(tactic| refine Hold.intro ?_)
local macro_rules | `(tactic| walk_at "binaryOp Add ref ref") => `(tactic| refine Hold.intro ?_)
local macro_rules | `(tactic| walk_at "subscriptTail Name Slice ref ref") => `(tactic| refine Hold.intro ?_)
local macro_rules | `(tactic| walk_at "execs cons") => `(tactic| ((with_reducible show wpAny _ _ (execs (Stmt.Assign [Expr.Name (Str.ofString "figure") _] _ _ :: _) _) _ _ _); refine Hold.intro ?_))
def pickC (cs : List Card) (lo hi st : Option Int) : List Card := (sliceRange (sliceBounds lo hi st cs.length).1 (sliceBounds lo hi st cs.length).2.1 (sliceBounds lo hi st cs.length).2.2).filterMap (cs[·]?)
theorem CardsP.places {P : Addr → Obj → Prop} {vs : List Value} {cs : List Card} (x : CardsP P vs cs) : ∀ js : List Nat, CardsP P (js.filterMap (vs[·]?)) (js.filterMap (cs[·]?))
  | [] => .nil
  | j :: js => by
    have ih := CardsP.places x js
    cases hv : vs[j]? with
    | some v =>
      obtain ⟨c, hc, hcv⟩ := x.get hv
      simp only [List.filterMap_cons, hv, hc]
      exact CardsP.append (vs := [v]) (cs := [c]) hcv ih
    | none =>
      have hc : cs[j]? = none := by
        rw [List.getElem?_eq_none_iff] at hv ⊢
        rw [← x.length]; exact hv
      simp only [List.filterMap_cons, hv, hc]
      exact ih
theorem CardsP.pick {P : Addr → Obj → Prop} {vs : List Value} {cs : List Card} (x : CardsP P vs cs) (lo hi st : Option Int) : CardsP P (slicePick vs.toArray lo hi st).toList (pickC cs lo hi st) := by
  have e : (slicePick vs.toArray lo hi st).toList = (sliceRange (sliceBounds lo hi st cs.length).1 (sliceBounds lo hi st cs.length).2.1 (sliceBounds lo hi st cs.length).2.2).filterMap (vs[·]?) := by
    simp [slicePick, x.length]
  rw [e]
  exact x.places _
def OddLen (D : List Card) : Prop := D.length = 5 ∨ D.length = 7 ∨ D.length = 9
theorem odd_form {D : List Card} (h : OddLen D) : (∃ a b c d e, D = [a, b, c, d, e]) ∨ (∃ a b c d e f g, D = [a, b, c, d, e, f, g]) ∨ ∃ a b c d e f g i j, D = [a, b, c, d, e, f, g, i, j] := by
  rcases h with h | h | h
  · match D, h with
    | [a, b, c, d, e], _ => exact .inl ⟨a, b, c, d, e, rfl⟩
  · match D, h with
    | [a, b, c, d, e, f, g], _ => exact .inr (.inl ⟨a, b, c, d, e, f, g, rfl⟩)
  · match D, h with
    | [a, b, c, d, e, f, g, i, j], _ => exact .inr (.inr ⟨a, b, c, d, e, f, g, i, j, rfl⟩)
theorem pick_of {D : List Card} {lo hi st : Option Int} {n : Nat} (js : List Nat) (hn : D.length = n) (h : sliceRange (sliceBounds lo hi st n).1 (sliceBounds lo hi st n).2.1 (sliceBounds lo hi st n).2.2 = js) : pickC D lo hi st = js.filterMap (D[·]?) := by
  subst hn
  unfold pickC
  rw [h]
theorem pick_ev {D : List Card} (h : OddLen D) : pickC D (some 0) none (some 2) = ev D := by
  rcases odd_form h with ⟨a, b, c, d, e, rfl⟩ | ⟨a, b, c, d, e, f, g, rfl⟩ | ⟨a, b, c, d, e, f, g, i, j, rfl⟩
  · rw [pick_of (n := 5) [0, 2, 4] rfl (by decide)]; simp [ev]
  · rw [pick_of (n := 7) [0, 2, 4, 6] rfl (by decide)]; simp [ev]
  · rw [pick_of (n := 9) [0, 2, 4, 6, 8] rfl (by decide)]; simp [ev]
theorem pick_od {D : List Card} (h : OddLen D) : pickC D (some 1) none (some 2) = od D := by
  rcases odd_form h with ⟨a, b, c, d, e, rfl⟩ | ⟨a, b, c, d, e, f, g, rfl⟩ | ⟨a, b, c, d, e, f, g, i, j, rfl⟩
  · rw [pick_of (n := 5) [1, 3] rfl (by decide)]; simp [od]
  · rw [pick_of (n := 7) [1, 3, 5] rfl (by decide)]; simp [od]
  · rw [pick_of (n := 9) [1, 3, 5, 7] rfl (by decide)]; simp [od]
theorem pick_last {D : List Card} (h : OddLen D) : pickC D (some (-1)) none none = D.drop (D.length - 1) := by
  rcases odd_form h with ⟨a, b, c, d, e, rfl⟩ | ⟨a, b, c, d, e, f, g, rfl⟩ | ⟨a, b, c, d, e, f, g, i, j, rfl⟩
  · rw [pick_of (n := 5) [4] rfl (by decide)]; simp
  · rw [pick_of (n := 7) [6] rfl (by decide)]; simp
  · rw [pick_of (n := 9) [8] rfl (by decide)]; simp
theorem pick_cut {D : List Card} (h : OddLen D) {k : Nat} (hk : k = D.length / 2 + 1 ∨ k = D.length / 2) : pickC D none (some (k : Int)) none = D.take k ∧ pickC D (some (k : Int)) none none = D.drop k := by
  rcases odd_form h with ⟨a, b, c, d, e, rfl⟩ | ⟨a, b, c, d, e, f, g, rfl⟩ | ⟨a, b, c, d, e, f, g, i, j, rfl⟩
  · have : k = 3 ∨ k = 2 := by simpa using hk
    rcases this with rfl | rfl
    · rw [pick_of (n := 5) [0, 1, 2] rfl (by decide), pick_of (n := 5) [3, 4] rfl (by decide)]; simp
    · rw [pick_of (n := 5) [0, 1] rfl (by decide), pick_of (n := 5) [2, 3, 4] rfl (by decide)]; simp
  · have : k = 4 ∨ k = 3 := by simpa using hk
    rcases this with rfl | rfl
    · rw [pick_of (n := 7) [0, 1, 2, 3] rfl (by decide), pick_of (n := 7) [4, 5, 6] rfl (by decide)]; simp
    · rw [pick_of (n := 7) [0, 1, 2] rfl (by decide), pick_of (n := 7) [3, 4, 5, 6] rfl (by decide)]; simp
  · have : k = 5 ∨ k = 4 := by simpa using hk
    rcases this with rfl | rfl
    · rw [pick_of (n := 9) [0, 1, 2, 3, 4] rfl (by decide), pick_of (n := 9) [5, 6, 7, 8] rfl (by decide)]; simp
    · rw [pick_of (n := 9) [0, 1, 2, 3] rfl (by decide), pick_of (n := 9) [4, 5, 6, 7, 8] rfl (by decide)]; simp
theorem mk0 : Str.ofString "" = T [] := by decide
theorem pickC_mem {D : List Card} {lo hi st : Option Int} {c : Card} (h : c ∈ pickC D lo hi st) : c ∈ D := by
  obtain ⟨j, _, hj⟩ := List.mem_filterMap.mp h
  exact List.mem_of_getElem? hj
theorem AllBare.or {g g' : Array GenState} (h : AllBare g) (e : g' = g ∨ g' = g.push .finished) : AllBare g' := by
  rcases e with rfl | rfl
  · exact h
  · exact h.push rfl
set_option maxHeartbeats 4000000 in
theorem seg_strip {w : World} {A : Around} {s : Shared} {h₀ : Heap} {L : Addr} {mg mb m : Map} {n : Led} {ca da many wish : Nat} {cvs dvs : List Value} {cs D : List Card} {t1 t2 : Tok} {tv uv : Value} {Q : Flow → Shared → Prop}
    (S : Stat mg mb h₀) (hd : A.depth + 20 < recursionLimit) (hh : A.handled = none) (F : Fr h₀ L s.heap m) (N : News h₀ L s.heap n) (st : LawSt h₀ L n ca da cvs dvs cs D many wish) (hb : AllBare s.gens)
    (hg : ∀ c ∈ D, GoodC c) (ho : OddLen D)
    (hkn : Kn m [(Str.ofString "text", .str (T (lawL [34] D)) t1), (Str.ofString "inner", .str (T ((lawL [34] D).drop 1).dropLast) t2), (Str.ofString "deck", .ref da), (Str.ofString "turns", tv), (Str.ofString "turn", uv)])
    (h : ∀ h' tk g' m' t3 t4, AllBare g' → Fr h₀ L h' m' → News h₀ L h' n → Kn m' [(Str.ofString "firsts", .str (T (lawL [] (ev D))) t3), (Str.ofString "seconds", .str (T (lawL [] (od D))) t4), (Str.ofString "deck", .ref da), (Str.ofString "turns", tv), (Str.ofString "turn", uv)] →
      wpAny (model pw w) A (execs (turnB.drop 9) (lawX L)) Q (fun _ _ => False) { s with heap := h', toks := tk, gens := g' }) :
    wpAny (model pw w) A (execs (turnB.drop 6) (lawX L)) Q (fun _ _ => False) s := by
  obtain ⟨bd, hbd⟩ : ∃ b, b = turnB := ⟨_, rfl⟩
  rw [← hbd] at h ⊢
  conv at hbd => rhs; whnf
  subst hbd
  dsimp only [List.drop] at h ⊢
  replace F := Fr.kn F hkn
  dsimp only [over] at F
  have h9 : D.length ≤ 9 := by rcases ho with e | e | e <;> omega
  have hodd : D.length % 2 = 1 := by rcases ho with e | e | e <;> omega
  have h3 : 3 ≤ D.length := by rcases ho with e | e | e <;> omega
  have hXl := lawL_len (mk := [34]) (by decide) hg h9
  have hTX : (T (lawL [34] D)).length ≤ 300 := by rw [T_len]; omega
  have hTI : (T ((lawL [34] D).drop 1).dropLast).length ≤ 300 := by rw [T_len]; simp; omega
  have hdl := st.cd.length
  repeat' walk1
  refine wpAny_call (strip_call (S.keeps F.keep) (by omega) hh hTI ?_)
  intro h1 tk1 t3 g1 keep1 hg1
  rw [law_firsts hg hodd h3]
  have F1 := Fr.more F keep1
  have N1 := News.more' N keep1
  have hb1 := AllBare.or hb hg1
  repeat' walk1
  rename_i Fb Nb
  refine wpAny_call (strip_call (S.keeps Fb.keep) (by omega) hh hTX ?_)
  intro h2 tk2 t4 g2 keep2 hg2
  rw [law_seconds hg hodd h3]
  have F2 := Fr.more Fb keep2
  have N2 := News.more' Nb keep2
  have hb2 := AllBare.or hb1 hg2
  clear Fb Nb keep2 F1 N1 keep1
  have hdv : dvs.toArray.size ≤ sizeLine := by rw [sizeLine_eq]; simp; omega
  repeat' walk1
  rename_i Fc Nc
  refine slice_list3 (s := ⟨_, _, _, _, _⟩) Fc Nc (st.ld.now Fc Nc fun _ hq => hq) (.int _ _) .none (.int _ _) (by decide) (fun h3' F3 N3 => ?_) (by with_unfolding_all rfl) (by intro _; with_unfolding_all rfl) hdv
  repeat' walk1
  refine wpAny_call (law_text_call (cs := ev D) (vs := (slicePick dvs.toArray (some 0) none (some 2)).toList) ((S.keeps F3.keep).defs (122, 18, 121) (by decide)) (S.keeps F3.keep).nolimit (by omega) hh (by rw [Array.toArray_toList]; exact News.isList N3 (.head _)) (by rw [← pick_ev ho]; exact (st.cd.pick _ _ _).now F3 N3 fun _ hq => .tail _ hq) (fun c hc => good_small (hg c (ev_mem hc))) (by rw [← pick_ev ho]; exact Nat.le_trans (List.length_filterMap_le _ _) (by simp [sliceRange, sliceBounds]; omega)) (by decide) ?_)
  intro h4 tk4 t5 keep4
  rw [mk0, lawFold_T]
  have F4 := Fr.more F3 keep4
  have N4 := News.sub (News.more' N3 keep4) (n' := n) fun q hq => .tail _ hq
  clear F3 N3 keep4 Fc Nc F2 N2
  repeat' walk1
  · exact (ne_self (by assumption)).elim
  refine slice_list3 (s := ⟨_, _, _, _, _⟩) F4 N4 (st.ld.now F4 N4 fun _ hq => hq) (.int _ _) .none (.int _ _) (by decide) (fun h5' F5 N5 => ?_) (by with_unfolding_all rfl) (by intro _; with_unfolding_all rfl) hdv
  repeat' walk1
  refine wpAny_call (law_text_call (cs := od D) (vs := (slicePick dvs.toArray (some 1) none (some 2)).toList) ((S.keeps F5.keep).defs (122, 18, 121) (by decide)) (S.keeps F5.keep).nolimit (by omega) hh (by rw [Array.toArray_toList]; exact News.isList N5 (.head _)) (by rw [← pick_od ho]; exact (st.cd.pick _ _ _).now F5 N5 fun _ hq => .tail _ hq) (fun c hc => good_small (hg c (od_mem hc))) (by rw [← pick_od ho]; exact Nat.le_trans (List.length_filterMap_le _ _) (by simp [sliceRange, sliceBounds]; omega)) (by decide) ?_)
  intro h6 tk6 t6 keep6
  rw [lawFold_T]
  have F6 := Fr.more F5 keep6
  have N6 := News.sub (News.more' N5 keep6) (n' := n) fun q hq => .tail _ hq
  clear F5 N5 keep6
  repeat' walk1
  · exact (ne_self (by assumption)).elim
  · exact h _ _ g2 _ t3 t4 hb2 F6 N6 ⟨rfl, rfl, rfl, rfl, rfl, trivial⟩
end Mine

namespace Mine
set_option maxRecDepth 100000
local macro_rules | `(tactic| walk_at "eval Name") => `(tactic| first | (refine gnameX (by assumption) (by assumption) (by rfl) ?_) | (refine bnameX (by assumption) (by assumption) (by decide) (by first | exact bb_len | exact bb_sum | exact bb_range) ?_) | (refine nameX_L (by assumption) (by rfl) ?_) | (refine nameX_C (by assumption) (by rfl) (by repeat (first | assumption | apply List.mem_cons_of_mem)) (by assumption) ?_))
local macro_rules | `(tactic| walk_at "storeName") => `(tactic| first | (refine storeX_L (by assumption) (by assumption) ?_; intro _ _ _) | (refine storeC (by assumption) (by assumption) (by rfl) (by repeat (first | assumption | apply List.mem_cons_of_mem)) (by assumption) ?_; intro _ _ _ _ _))
local macro_rules | `(tactic| walk_at "callWith ref") => `(tactic| (refine callWith_st (by assumption) (by rfl) ?_))
local macro_rules | `(tactic| walk_at "call type:range") => `(tactic| refine Hold.intro ?_)
local macro_rules | `(tactic| walk_at "subscriptTail") => `(tactic| ((with_reducible show wpAny _ _ (subscriptTail _ _ (Value.ref _) _) _ _ _); refine Hold.intro ?_))
local macro_rules | `(tactic| walk_at "call builtin:sum") => `(tactic| refine Hold.intro ?_)
local macro_rules | `(tactic| walk_at "call builtin:len") => `(tactic| refine Hold.intro ?_)
local macro_rules | `(tactic| walk_at "call ref") => `(tactic| refine Hold.intro ?_)
local macro_rules | `(tactic| walk_at "binaryOp Pow int int") => `(tactic| refine Hold.intro ?_)
local macro_rules | `(tactic| walk_at "binaryOp Mod") => `(tactic| refine Hold.intro ?_)
local macro_rules | `(tactic| walk_at "binaryOp Add ref ref") => `(tactic| refine Hold.intro ?_)
local macro_rules | `(tactic| walk_at "subscriptTail Name Slice ref ref") => `(tactic| refine Hold.intro ?_)
local macro_rules | `(tactic| walk_at "binaryOp FloorDiv int int") => `(tactic| refine Hold.intro ?_)
local macro_rules | `(tactic| walk_at "binaryOp Mod int int") => `(tactic| refine Hold.intro ?_)
local macro_rules | `(tactic| walk_at "binaryOp Mult int int") => `(tactic| refine Hold.intro ?_)
local macro_rules | `(tactic| walk_at "execs cons") => `(tactic| ((with_reducible show wpAny _ _ (execs (Stmt.Assign [Expr.Name (Str.ofString "cut") _] _ _ :: _) _) _ _ _); refine Hold.intro ?_))
local macro_rules | `(tactic| walk_at "execs cons") => `(tactic| ((with_reducible show wpAny _ _ (execs (Stmt.Assign [Expr.Name (Str.ofString "deck") _] _ _ :: _) _) _ _ _); refine Hold.intro ?_))
theorem LawSt.step {h₀ h : Heap} {L : Addr} {n : Led} {ca da : Addr} {cvs dvs : List Value} {cs ds : List Card} {many wish : Nat} {o4 o' : Obj} {vc : Option Value} {v : Value} (N : News h₀ L h n) (x : LawSt h₀ L n ca da cvs dvs cs ds many wish) (m4 : (L + 4, o4) ∈ n) (d4 : o4.data = .cell vc) (d' : o'.data = .cell (some v)) :
    LawSt h₀ L ((L + 4, o') :: n.filter fun q => q.1 != L + 4) ca da cvs dvs cs ds many wish := by
  obtain ⟨⟨o1, m1, d1⟩, ⟨o2, t2, m2, d2⟩, ⟨o3, t3, m3, d3⟩, -, lc, cc, ld, cd⟩ := x
  exact ⟨⟨o1, .tail _ (List.mem_filter.mpr ⟨m1, by simp⟩), d1⟩, ⟨o2, t2, .tail _ (List.mem_filter.mpr ⟨m2, by simp⟩), d2⟩, ⟨o3, t3, .tail _ (List.mem_filter.mpr ⟨m3, by simp⟩), d3⟩, ⟨o', _, .head _, d'⟩,
    lc.mono fun a o ho hs => Sto.filter N m4 d4 ho hs, cc.mono fun a o ho hs => Sto.filter N m4 d4 ho hs, ld.mono fun a o ho hs => Sto.filter N m4 d4 ho hs, cd.mono fun a o ho hs => Sto.filter N m4 d4 ho hs⟩
theorem fig_eq (wish P : Nat) : ((wish : Int).fdiv (P : Int)).fmod 2 = ((wish / P % 2 : Nat) : Int) := by
  rw [Int.fdiv_eq_ediv_of_nonneg _ (by omega), Int.fmod_eq_emod_of_nonneg _ (by omega)]
  omega
theorem mod_castN (a b : Nat) : (a : Int).fmod (b : Int) = ((a % b : Nat) : Int) := by
  rw [Int.fmod_eq_emod_of_nonneg _ (by omega)]; omega
def deckS : Stmt := turnB.getD 11 (.Pass default)
set_option maxHeartbeats 4000000 in
theorem seg_fig {w : World} {A : Around} {s : Shared} {h₀ : Heap} {L : Addr} {mg mb m : Map} {n : Led} {ca da many wish t : Nat} {cvs dvs : List Value} {cs D : List Card} {t1 t2 tt ut : Tok} {x1 x2 : Str} {dv tv : Value} {Q : Flow → Shared → Prop}
    (S : Stat mg mb h₀) (hh : A.handled = none) (F : Fr h₀ L s.heap m) (N : News h₀ L s.heap n) (st : LawSt h₀ L n ca da cvs dvs cs D many wish) (ht : t < 4) (hw : wish < 16)
    (hkn : Kn m [(Str.ofString "firsts", .str x1 t1), (Str.ofString "seconds", .str x2 t2), (Str.ofString "turns", tv), (Str.ofString "turn", .int ((t : Nat) : Int) ut)])
    (h : ∀ h' tk m' n' t3 t5 o4, Fr h₀ L h' m' → News h₀ L h' n' → LawSt h₀ L n' ca da cvs dvs cs D many wish → (L + 4, o4) ∈ n' → o4.data = .cell (some (.int ((2 ^ (t + 1) : Nat) : Int) t5)) → (∀ q ∈ n, q.1 ≠ L + 4 → q ∈ n') →
      Kn m' [(Str.ofString "firsts", .str x1 t1), (Str.ofString "seconds", .str x2 t2), (Str.ofString "turns", tv), (Str.ofString "turn", .int ((t : Nat) : Int) ut), (Str.ofString "figure", .int ((wish / 2 ^ t % 2 : Nat) : Int) t3)] →
      wpAny (model pw w) A (execs (turnB.drop 11) (lawX L)) Q (fun _ _ => False) { s with heap := h', toks := tk }) :
    wpAny (model pw w) A (execs (turnB.drop 9) (lawX L)) Q (fun _ _ => False) s := by
  obtain ⟨bd, hbd⟩ : ∃ b, b = turnB := ⟨_, rfl⟩
  rw [← hbd] at h ⊢
  conv at hbd => rhs; whnf
  subst hbd
  dsimp only [List.drop] at h ⊢
  replace F := Fr.kn F hkn
  dsimp only [over] at F
  have st0 := st
  obtain ⟨⟨o1, m1, d1⟩, ⟨o2, t2', m2, d2⟩, ⟨o3, t3', m3, d3⟩, ⟨o4, v4, m4, d4⟩, -, -, -, -⟩ := st
  have hp2 : 0 < 2 ^ t ∧ 2 ^ t ≤ 8 := ⟨Nat.two_pow_pos t, by
    have : t = 0 ∨ t = 1 ∨ t = 2 ∨ t = 3 := by omega
    rcases this with rfl | rfl | rfl | rfl <;> decide⟩
  repeat' walk1
  refine pow2_int (by omega) ?_
  refine floordiv_int (by omega) ?_ (.inl (PyProof.noPylong_small (by omega)))
  repeat' walk1
  refine mod_int' (by omega) ?_
  rw [fig_eq]
  repeat' walk1
  rename_i Fa Na
  rw [show ((t : Nat) : Int) + 1 = ((t + 1 : Nat) : Int) by omega]
  refine pow2_int (by omega) ?_
  refine storeC Fa Na (by rfl) m4 d4 ?_
  intro h2 o' F2 N2 d2'
  exact h h2 _ _ _ _ _ o' F2 N2 (st0.step Na m4 d4 d2') (.head _) d2' (fun q hq hne => .tail _ (List.mem_filter.mpr ⟨hq, by simpa using hne⟩)) ⟨rfl, rfl, rfl, rfl, rfl, trivial⟩
end Mine

namespace Mine
set_option maxRecDepth 100000
section
local macro_rules | `(tactic| walk_at "eval Name") => `(tactic| first | (refine wpAny_Name (wpAny_loadName_local (by rfl) (by rfl) (Fr.ns (by assumption)) (by assumption) ?_) (by decide)) | (refine wpAny_Name (wpAny_loadName_cell (by rfl) (by rfl) (by rfl) (by assumption) ?_) (by decide)))
local macro_rules | `(tactic| walk_at "subscriptTail") => `(tactic| ((with_reducible show wpAny _ _ (subscriptTail _ _ (Value.ref _) _) _ _ _); refine Hold.intro ?_))
local macro_rules | `(tactic| walk_at "binaryOp Mod int int") => `(tactic| refine Hold.intro ?_)
local macro_rules | `(tactic| walk_at "binaryOp Mult int int") => `(tactic| refine Hold.intro ?_)
def compElt : Stmt → Expr
  | .Assign _ (.ListComp e _ _ _) _ => e
  | _ => default
def compScope : Stmt → Scope
  | .Assign _ (.ListComp _ _ s _) _ => s
  | _ => default
def deckCl (L : Addr) : List (Str × Addr) := [(Str.ofString "wish", L + 3), (Str.ofString "step", L + 4), (Str.ofString "many", L + 2), (Str.ofString "cards", L + 1)]
theorem deck_clos (L : Addr) : closureFor (compScope deckS) (lawX L) = pure (deckCl L) := by rfl
set_option maxHeartbeats 4000000 in
theorem deck_elt {w : World} {A : Around} {s : Shared} {hb : Heap} {C L ca many wish P i : Nat} {m : Map} {cvs : List Value} {t t1 t2 t3 : Tok} {E : Value → Shared → Prop}
    (F : Fr hb C s.heap m) (hx : m (Str.ofString "place") = some (.int ((i : Nat) : Int) t)) (k1 : s.heap.IsCell (L + 1) (some (.ref ca))) (k2 : s.heap.IsCell (L + 2) (some (.int ((many : Nat) : Int) t1))) (k3 : s.heap.IsCell (L + 3) (some (.int ((wish : Nat) : Int) t2))) (k4 : s.heap.IsCell (L + 4) (some (.int ((P : Nat) : Int) t3)))
    (hl : s.heap.IsList ca cvs.toArray) (hlen : cvs.length = many) (hm : 0 < many) (h9 : many ≤ 9) (hi : i < many) (hP : 0 < P) (hP2 : P ≤ 16) (hw : wish < 16) :
    wpAny (model pw w) A (eval (compElt deckS) (compEnvC (compScope deckS) (deckCl L) C (lawX L))) (fun y s₄ => cvs[(P * i + wish % P) % many]? = some y ∧ Keeps s s₄) E s := by
  obtain ⟨te, hte⟩ : ∃ e, e = compElt deckS := ⟨_, rfl⟩
  rw [← hte]
  conv at hte => rhs; whnf
  subst hte
  have hPi : P * i < 160 := Nat.lt_of_le_of_lt (Nat.mul_le_mul hP2 (Nat.le_of_lt (Nat.lt_of_lt_of_le hi h9))) (by decide)
  repeat' walk1
  refine mul_int ?_ (.of_left (PySem.intBits_le_64 (by omega) (by omega)))
  repeat' walk1
  refine mod_int' (by omega) ?_
  rw [mod_castN]
  repeat' walk1
  refine mod_int' (by omega) ?_
  rw [show ((P : Nat) : Int) * ((i : Nat) : Int) + ((wish % P : Nat) : Int) = ((P * i + wish % P : Nat) : Int) by rw [Int.natCast_add, Int.natCast_mul], mod_castN]
  have hk : (P * i + wish % P) % many < many := Nat.mod_lt _ hm
  refine item_tmp (x := cvs[(P * i + wish % P) % many]'(by omega)) hl (by omega) (by omega) (by rw [Int.toNat_natCast, List.getElem?_toArray, List.getElem?_eq_getElem]) ⟨by rw [List.getElem?_eq_getElem], _, _, rfl, fun _ _ e => e⟩
end
local macro_rules | `(tactic| walk_at "eval Name") => `(tactic| first | (refine gnameX (by assumption) (by assumption) (by rfl) ?_) | (refine bnameX (by assumption) (by assumption) (by decide) (by first | exact bb_len | exact bb_sum | exact bb_range) ?_) | (refine nameX_L (by assumption) (by rfl) ?_) | (refine nameX_C (by assumption) (by rfl) (by repeat (first | assumption | apply List.mem_cons_of_mem)) (by assumption) ?_))
local macro_rules | `(tactic| walk_at "storeName") => `(tactic| first | (refine storeX_L (by assumption) (by assumption) ?_; intro _ _ _) | (refine storeC (by assumption) (by assumption) (by rfl) (by repeat (first | assumption | apply List.mem_cons_of_mem)) (by assumption) ?_; intro _ _ _ _ _))
local macro_rules | `(tactic| walk_at "callWith ref") => `(tactic| (refine callWith_st (by assumption) (by rfl) ?_))
local macro_rules | `(tactic| walk_at "call type:range") => `(tactic| refine Hold.intro ?_)
local macro_rules | `(tactic| walk_at "subscriptTail") => `(tactic| ((with_reducible show wpAny _ _ (subscriptTail _ _ (Value.ref _) _) _ _ _); refine Hold.intro ?_))
local macro_rules | `(tactic| walk_at "call builtin:sum") => `(tactic| refine Hold.intro ?_)
local macro_rules | `(tactic| walk_at "call builtin:len") => `(tactic| refine Hold.intro ?_)
local macro_rules | `(tactic| walk_at "call ref") => `(tactic| refine Hold.intro ?_)
local macro_rules | `(tactic| walk_at "binaryOp Pow int int") => `(tactic| refine Hold.intro ?_)
local macro_rules | `(tactic| walk_at "binaryOp Mod") => `(tactic| refine Hold.intro ?_)
local macro_rules | `(tactic| walk_at "binaryOp Add ref ref") => `(tactic| refine Hold.intro ?_)
local macro_rules | `(tactic| walk_at "execs cons") => `(tactic| ((with_reducible show wpAny _ _ (execs (Stmt.Assign [Expr.Name (Str.ofString "cut") _] _ _ :: _) _) _ _ _); refine Hold.intro ?_))
set_option maxHeartbeats 4000000 in
theorem seg_deck {w : World} {A : Around} {s : Shared} {h₀ : Heap} {L : Addr} {mg mb m : Map} {n : Led} {ca da many wish t : Nat} {cvs dvs : List Value} {cs D : List Card} {t1 t2 t3 ut t5 : Tok} {x1 x2 : Str} {tv : Value} {fg : Nat} {o4 : Obj} {Q : Flow → Shared → Prop}
    (S : Stat mg mb h₀) (hh : A.handled = none) (F : Fr h₀ L s.heap m) (N : News h₀ L s.heap n) (st : LawSt h₀ L n ca da cvs dvs cs D many wish) (ht : t < 4) (hw : wish < 16)
    (m4 : (L + 4, o4) ∈ n) (d4 : o4.data = .cell (some (.int ((2 ^ (t + 1) : Nat) : Int) t5))) (hm : 0 < many) (h9 : many ≤ 9) (hlen : cs.length = many)
    (hkn : Kn m [(Str.ofString "firsts", .str x1 t1), (Str.ofString "seconds", .str x2 t2), (Str.ofString "turns", tv), (Str.ofString "turn", .int ((t : Nat) : Int) ut), (Str.ofString "figure", .int ((fg : Nat) : Int) t3)])
    (h : ∀ h' tk m' n' da' dvs', Fr h₀ L h' m' → News h₀ L h' n' → LawSt h₀ L n' ca da' cvs dvs' cs (deckAt cs many wish (t + 1)) many wish → (∀ q ∈ n, q ∈ n') → (∀ q ∈ n', q ∈ n ∨ q.2.cls = .type "list") →
      Kn m' [(Str.ofString "firsts", .str x1 t1), (Str.ofString "seconds", .str x2 t2), (Str.ofString "turns", tv), (Str.ofString "turn", .int ((t : Nat) : Int) ut), (Str.ofString "figure", .int ((fg : Nat) : Int) t3), (Str.ofString "deck", .ref da')] →
      wpAny (model pw w) A (execs (turnB.drop 12) (lawX L)) Q (fun _ _ => False) { s with heap := h', toks := tk }) :
    wpAny (model pw w) A (execs (turnB.drop 11) (lawX L)) Q (fun _ _ => False) s := by
  obtain ⟨bd, hbd⟩ : ∃ b, b = turnB := ⟨_, rfl⟩
  rw [← hbd] at h ⊢
  conv at hbd => rhs; whnf
  subst hbd
  dsimp only [List.drop] at h ⊢
  have hlenv : cvs.length = many := by rw [st.cc.length, hlen]
  obtain ⟨⟨o1, m1, d1⟩, ⟨o2, t2', m2, d2⟩, ⟨o3, t3', m3, d3⟩, -, lc, cc, -, -⟩ := id st
  walk1
  refine assign_comp_range (cl := deckCl L) many (fun i y => cvs[(2 ^ (t + 1) * i + wish % 2 ^ (t + 1)) % many]? = some y) hh (by omega) F rfl ?iter ?elt ?fin rfl (deck_clos L)
  case iter =>
    repeat' walk1
    exact call_range_1 ⟨_, _, _, _, _, _, rfl, rfl, IsRange.new .., fun b o e => Heap.get?_push_of_some _ e⟩
  case elt =>
    intro C i t6 s₃ m₃ E' hb hi hk F3 hx
    have hP : 0 < 2 ^ (t + 1) ∧ 2 ^ (t + 1) ≤ 16 := ⟨Nat.two_pow_pos _, by
      have : t = 0 ∨ t = 1 ∨ t = 2 ∨ t = 3 := by omega
      rcases this with rfl | rfl | rfl | rfl <;> decide⟩
    have up : ∀ b o, s.heap.get? b = some o → s₃.heap.get? b = some o := fun b o e => F3.keep _ _ (hk _ _ e)
    exact deck_elt F3 hx ⟨o1, up _ _ (N _ m1).1, d1⟩ ⟨o2, up _ _ (N _ m2).1, d2⟩ ⟨o3, up _ _ (N _ m3).1, d3⟩ ⟨o4, up _ _ (N _ m4).1, d4⟩ ((lc.now F N fun _ hq => hq).at fun o e => up _ _ e) hlenv hm h9 hi hP.1 hP.2 hw
  case fin =>
    intro D2 h' tk ys hsz hG hlD hnone F' keep
    obtain ⟨oD, hoD, hcD, kD, hdD⟩ := hlD
    have hDL : D2 ≠ L := by
      rintro rfl
      obtain ⟨oL, _, _, hL, _⟩ := F.ns
      rw [hnone] at hL; cases hL
    have hD0 : h₀.get? D2 = none := by
      cases q : h₀.get? D2 with
      | none => rfl
      | some o => rw [F.keep _ _ q] at hnone; cases hnone
    have N' : News h₀ L h' ((D2, oD) :: n) := by
      intro q hq
      rcases List.mem_cons.mp hq with rfl | hq
      · exact ⟨hoD, hDL, hD0⟩
      · exact ⟨keep _ _ (N q hq).2.1 (N q hq).1, (N q hq).2⟩
    have st' := st.up (n' := (D2, oD) :: n) fun q hq => .tail _ hq
    refine h h' tk _ ((D2, oD) :: n) D2 ys.toList F' N' ⟨st'.c1, st'.c2, st'.c3, st'.c4, st'.lc, st'.cc, ⟨oD, kD, .inr (.head _), hcD, by rw [hdD, Array.toArray_toList]⟩, ?_⟩ (fun q hq => .tail _ hq) (fun q hq => by
      rcases List.mem_cons.mp hq with rfl | hq
      · exact .inr hcD
      · exact .inl hq) ?_
    · refine CardsP.of_get (by rw [Array.length_toList, hsz, deck_len]) fun i v c hv hc => ?_
      have hi : i < many := by
        rcases Nat.lt_or_ge i many with q | q
        · exact q
        · rw [List.getElem?_eq_none (by rw [Array.length_toList, hsz]; exact q)] at hv; cases hv
      have hy := hG i v (by simpa using hv)
      obtain ⟨c', hc', hcv⟩ := st'.cc.get hy
      have : c = c' := by
        have e : (deckAt cs many wish (t + 1))[i]? = some (cs.getD ((2 ^ (t + 1) * i + wish % 2 ^ (t + 1)) % many) (T [], none)) := by
          simp [deckAt, idx, List.getElem?_range hi]
        rw [e] at hc
        cases hc
        rw [List.getD_eq_getElem?_getD, hc']; rfl
      rw [this]; exact hcv
    · obtain ⟨a1, a2, a3, a4, a5, -⟩ := hkn
      exact ⟨a1, a2, a3, a4, a5, rfl, trivial⟩
end Mine

namespace Mine
set_option maxRecDepth 100000
def optD : Option Str → Dat
  | none => .none
  | some v => .str v
def cardD (c : Card) : Dat := .tuple [.str c.1, optD c.2]
def pileD (cs : List Card) : Dat := .list (cs.map cardD)
def StrC (c : Card) : Prop := PyData.strOk c.1 = true ∧ ∀ v, c.2 = some v → PyData.strOk v = true
theorem cardD_ok {c : Card} (h : StrC c) (n : Nat) : kqdOk (n + 1) (cardD c) = true := by
  obtain ⟨k, v⟩ := c
  obtain ⟨h1, h2⟩ := h
  cases v with
  | none => cases n <;> simp_all [cardD, optD, kqdOk]
  | some v => have := h2 v rfl; cases n <;> simp_all [cardD, optD, kqdOk]
theorem pileD_ok {cs : List Card} (h : ∀ c ∈ cs, StrC c) (n : Nat) : kqdOk (n + 2) (pileD cs) = true := by
  simp only [pileD, kqdOk, List.all_map, List.all_eq_true]
  intro c hc
  exact cardD_ok (h c hc) n
theorem optD_reads {h : Heap} (v : Option Str) (t : Tok) : PySem.Reads h (optV v t) (kqdP (optD v)) [] := by
  cases v with
  | none => exact .none
  | some v => exact .str v t
theorem cards_reads {h : Heap} {vs : List Value} {cs : List Card} (x : CardsAt h vs cs) : ∃ as, ReadsAll h vs (kqdPs (cs.map cardD)) as := by
  induction x with
  | nil => exact ⟨_, .nil⟩
  | @cons v vs c cs a _ ih =>
    obtain ⟨as, ih⟩ := ih
    obtain ⟨ad, t, t', rfl, o, ho, hc, n, hd⟩ := a
    have h1 : ReadsAll h [.str c.1 t, optV c.2 t'] (kqdPs [.str c.1, optD c.2]) ([] ++ ([] ++ [])) := .cons (.str _ _) (.cons (optD_reads _ _) .nil)
    exact ⟨_, .cons (reads_tuple_at ho hc hd h1) ih⟩
theorem pile_reads {h : Heap} {b : Addr} {its : Array Value} {cs : List Card} (hl : h.IsList b its) (hc : CardsAt h its.toList cs) : ∃ as, PySem.Reads h (.ref b) (kqdP (pileD cs)) as := by
  obtain ⟨as, r⟩ := cards_reads hc
  obtain ⟨o, ho, hcl, n, hd⟩ := hl
  exact ⟨_, reads_list_at ho hcl hd r⟩
theorem piles_reads {h : Heap} {vs : List Value} {css : List (List Card)} (x : PilesAt h vs css) : ∃ as, ReadsAll h vs (kqdPs (css.map pileD)) as := by
  induction x with
  | nil => exact ⟨_, .nil⟩
  | cons hl hc _ ih =>
    obtain ⟨as, ih⟩ := ih
    obtain ⟨bs, r⟩ := pile_reads hl hc
    exact ⟨_, .cons r ih⟩
theorem lst_reads {h : Heap} {b : Addr} {its : Array Value} {css : List (List Card)} (hl : h.IsList b its) (hc : PilesAt h its.toList css) : ∃ as, PySem.Reads h (.ref b) (.list (kqdPs (css.map pileD))) as := by
  obtain ⟨as, r⟩ := piles_reads hc
  obtain ⟨o, ho, hcl, n, hd⟩ := hl
  exact ⟨_, reads_list_at ho hcl hd r⟩
section
variable {w : World} {A : Around} {E : Value → Shared → Prop} {s : Shared} {a b : Addr} {its jts : Array Value} {css : List (List Card)} {Q : Value → Shared → Prop}
theorem piles_shaped (hs : ∀ cs ∈ css, ∀ c ∈ cs, StrC c) : SeqAt.shaped (.list (kqdPs (css.map pileD))) = true ∧ PyData.eqv (.list (kqdPs (css.map pileD))) (.list (kqdPs (css.map pileD))) = true := by
  have hk : ∀ d ∈ css.map pileD, kqdOk 8 d = true := by
    intro d hd
    obtain ⟨cs, hc, rfl⟩ := List.mem_map.mp hd
    exact pileD_ok (hs cs hc) 6
  have h9 : kqdOk 9 (.list (css.map pileD)) = true := by simpa [kqdOk] using hk
  have la := kqd_lay 9 (.list (css.map pileD)) h9
  have q := kqd_eqv 9 (.list (css.map pileD)) (.list (css.map pileD)) 9 h9 h9
  rw [kqdP] at la q
  exact ⟨by unfold SeqAt.shaped; rw [la.1, Bool.true_and]; exact decide_eq_true (Nat.le_trans la.2 (by decide)), q.mpr rfl⟩
theorem ne_piles (ha : s.heap.IsList a its) (pa : PilesAt s.heap its.toList css) (hb : s.heap.IsList b jts) (pb : PilesAt s.heap jts.toList css) (hs : ∀ cs ∈ css, ∀ c ∈ cs, StrC c) (hu : A.units + 64 < cLine) (h : Q (.bool false) s) :
    wpAny (model pw w) A (compareOp .NotEq (.ref a) (.ref b)) Q E s := by
  obtain ⟨as, ra⟩ := lst_reads ha pa
  obtain ⟨bs, rb⟩ := lst_reads hb pb
  obtain ⟨h1, h2⟩ := piles_shaped hs
  exact ne_dataH ra rb h1 h1 hu (by rw [h2]; exact h)
theorem eq_piles (ha : s.heap.IsList a its) (pa : PilesAt s.heap its.toList css) (hb : s.heap.IsList b jts) (pb : PilesAt s.heap jts.toList css) (hs : ∀ cs ∈ css, ∀ c ∈ cs, StrC c) (hu : A.units + 64 < cLine) (h : Q (.bool true) s) :
    wpAny (model pw w) A (compareOp .Eq (.ref a) (.ref b)) Q E s := by
  obtain ⟨as, ra⟩ := lst_reads ha pa
  obtain ⟨bs, rb⟩ := lst_reads hb pb
  obtain ⟨h1, h2⟩ := piles_shaped hs
  exact eq_dataH ra rb h1 h1 hu (by rw [h2]; exact h)
end
theorem strOk_T (l : List Nat) : PyData.strOk (T l) = l.all fun x => decide (x < 0x110000) := by
  unfold PyData.strOk
  simp
theorem good_str {c : Card} (h : GoodC c) : StrC c := by
  obtain ⟨a, ha, s, hs, v, hv, rfl⟩ := good_form h
  have h1 : ∀ a ∈ letters, ∀ s ∈ sufs, PyData.strOk (T (a :: s)) = true := by simp only [strOk_T]; decide
  refine ⟨h1 a ha s hs, fun x hx => ?_⟩
  dsimp only at hx
  simp only [valsL, List.mem_cons, List.not_mem_nil, or_false] at hv
  rcases hv with rfl | rfl | rfl
  · cases hx
  · cases hx; rw [strOk_T]; decide
  · cases hx; rw [strOk_T]; decide
/-- piles carried on to a later heap -/
theorem IsList.move {h h' : Heap} {a : Addr} {its : Array Value} (k : ∀ b o, IsSeq o → h.get? b = some o → h'.get? b = some o) (x : h.IsList a its) : h'.IsList a its :=
  let ⟨o, ho, hc, n, hd⟩ := x; ⟨o, k _ _ ⟨_, _, hd⟩ ho, hc, n, hd⟩
theorem CardsAt.move {h h' : Heap} (k : ∀ b o, IsSeq o → h.get? b = some o → h'.get? b = some o) {vs cs} (x : CardsAt h vs cs) : CardsAt h' vs cs := by
  induction x with
  | nil => exact .nil
  | cons a _ ih => obtain ⟨ad, t, t', rfl, o, ho, hc, n, hd⟩ := a; exact .cons ⟨_, t, t', rfl, o, k _ _ ⟨_, _, hd⟩ ho, hc, n, hd⟩ ih
theorem PilesAt.move {h h' : Heap} (k : ∀ b o, IsSeq o → h.get? b = some o → h'.get? b = some o) {vs css} (x : PilesAt h vs css) : PilesAt h' vs css := by
  induction x with
  | nil => exact .nil
  | cons hl hc _ ih => exact .cons (IsList.move k hl) (CardsAt.move k hc) ih
theorem seq_keep {h₀ h h' : Heap} {L : Addr} {m m' : Map} {n' : Led} (F : Fr h₀ L h m) (F' : Fr h₀ L h' m') (N' : News h₀ L h' n') (hs : ∀ q ∈ everything h₀ L h, q ∈ n') : ∀ b o, IsSeq o → h.get? b = some o → h'.get? b = some o :=
  fun _ _ hq ho => (Sto.of_heap F ho hq).get F' N' hs
end Mine

namespace Mine
set_option maxRecDepth 100000
local macro_rules | `(tactic| walk_at "eval Name") => `(tactic| first | (refine gnameX (by assumption) (by assumption) (by rfl) ?_) | (refine bnameX (by assumption) (by assumption) (by decide) (by first | exact bb_len | exact bb_sum | exact bb_range) ?_) | (refine nameX_L (by assumption) (by rfl) ?_) | (refine nameX_C (by assumption) (by rfl) (by repeat (first | assumption | apply List.mem_cons_of_mem)) (by assumption) ?_))
local macro_rules | `(tactic| walk_at "storeName") => `(tactic| first | (refine storeX_L (by assumption) (by assumption) ?_; intro _ _ _) | (refine storeC (by assumption) (by assumption) (by rfl) (by repeat (first | assumption | apply List.mem_cons_of_mem)) (by assumption) ?_; intro _ _ _ _ _))
local macro_rules | `(tactic| walk_at "callWith ref") => `(tactic| (refine callWith_st (by assumption) (by rfl) ?_))
local macro_rules | `(tactic| walk_at "call type:range") => `(tactic| refine Hold.intro ?_)
local macro_rules | `(tactic| walk_at "subscriptTail") => `(tactic| ((with_reducible show wpAny _ _ (subscriptTail _ _ (Value.ref _) _) _ _ _); refine Hold.intro ?_))
local macro_rules | `(tactic| walk_at "call builtin:sum") => `(tactic| refine Hold.intro ?_)
local macro_rules | `(tactic| walk_at "call builtin:len") => `(tactic| refine Hold.intro ?_)
local macro_rules | `(tactic| walk_at "call ref") => `(tactic| refine Hold.intro ?_)
local macro_rules | `(tactic| walk_at "binaryOp Pow int int") => `(tactic| refine Hold.intro ?_)
local macro_rules | `(tactic| walk_at "binaryOp Mod") => `(tactic| refine Hold.intro ?_)
local macro_rules | `(tactic| walk_at "binaryOp Add ref ref") => `(tactic| refine Hold.intro ?_)
local macro_rules | `(tactic| walk_at "subscriptTail Name Slice ref ref") => `(tactic| refine Hold.intro ?_)
local macro_rules | `(tactic| walk_at "compareOp NotEq ref ref") => `(tactic| refine Hold.intro ?_)
theorem cut_eq (many fg : Nat) (h : fg ≤ 1) : (many : Int).fdiv 2 + 1 - (fg : Int) = ((many / 2 + 1 - fg : Nat) : Int) := by
  rw [Int.fdiv_eq_ediv_of_nonneg _ (by omega)]
  omega
theorem split_w {w : World} {A : Around} {E : Value → Shared → Prop} {s : Shared} {h₀ : Heap} {L : Addr} {mg mb m : Map} {n : Led} {hv : Addr} {vs : List Value} {css : List (List Card)} {Q : Value → Shared → Prop}
    (S : Stat mg mb h₀) (PT : Pats h₀) (hd : A.depth + 10 < recursionLimit) (hh : A.handled = none) (F : Fr h₀ L s.heap m) (N : News h₀ L s.heap n) (hvs : s.heap.IsList hv vs.toArray) (hlen : vs.length = css.length) (hln : css.length ≤ 300)
    (hts : ∀ (i : Nat) (v : Value), vs[i]? = some v → ∃ l t cs, v = .str (T l) t ∧ css[i]? = some cs ∧ Reads l cs ∧ cs ≠ [] ∧ l.length ≤ 300)
    (h : ∀ h' tk r rits, Fr h₀ L h' m → News h₀ L h' n → h'.IsList r rits → PilesAt h' rits.toList css → Q (.ref r) { s with heap := h', toks := tk }) :
    wpAny (model pw w) A (call (.ref 84) [.ref hv]) Q E s :=
  wpAny_call (split_call (S.keeps F.keep) (PT.keeps F.keep) hd hh hvs hlen hln hts fun h' tk r rits keep hl hp => h h' tk r rits (Fr.more F keep) (News.more' N keep) hl hp)
set_option maxHeartbeats 4000000 in
theorem seg_split {w : World} {A : Around} {s : Shared} {h₀ : Heap} {L : Addr} {mg mb m : Map} {n : Led} {ca da many wish fg : Nat} {cvs dvs : List Value} {cs D P1 P2 : List Card} {t1 t2 t3 : Tok} {l1 l2 : List Nat} {tv uv : Value} {Q : Flow → Shared → Prop}
    (S : Stat mg mb h₀) (PT : Pats h₀) (hd : A.depth + 20 < recursionLimit) (hh : A.handled = none) (hu : A.units + 80 < cLine) (F : Fr h₀ L s.heap m) (N : News h₀ L s.heap n) (st : LawSt h₀ L n ca da cvs dvs cs D many wish)
    (ho : OddLen D) (hmany : many = D.length) (hg : ∀ c ∈ D, GoodC c) (hfg : fg ≤ 1) (hf0 : fg = 0 → D = P1 ++ P2 ∧ P1.length = many / 2 + 1) (hf1 : fg = 1 → D = P2 ++ P1 ∧ P2.length = many / 2)
    (r1 : Reads l1 P1) (r2 : Reads l2 P2) (b1 : l1.length ≤ 300) (b2 : l2.length ≤ 300) (n1 : P1 ≠ []) (n2 : P2 ≠ [])
    (hkn : Kn m [(Str.ofString "firsts", .str (T l1) t1), (Str.ofString "seconds", .str (T l2) t2), (Str.ofString "turns", tv), (Str.ofString "turn", uv), (Str.ofString "figure", .int ((fg : Nat) : Int) t3), (Str.ofString "deck", .ref da)])
    (h : ∀ h' tk m', Fr h₀ L h' m' → News h₀ L h' n → Kn m' [(Str.ofString "turns", tv), (Str.ofString "deck", .ref da)] → Q .next { s with heap := h', toks := tk }) :
    wpAny (model pw w) A (execs (turnB.drop 12) (lawX L)) Q (fun _ _ => False) s := by
  obtain ⟨bd, hbd⟩ : ∃ b, b = turnB := ⟨_, rfl⟩
  rw [← hbd]
  conv at hbd => rhs; whnf
  subst hbd
  dsimp only [List.drop]
  replace F := Fr.kn F hkn
  dsimp only [over] at F
  have st0 := st
  obtain ⟨⟨o1, m1, d1⟩, ⟨o2, t2', m2, d2⟩, ⟨o3, t3', m3, d3⟩, ⟨o4, v4, m4, d4⟩, -, -, ld, cd⟩ := st
  have hdl := cd.length
  have h9 : D.length ≤ 9 := by rcases ho with e | e | e <;> omega
  have hdv : dvs.toArray.size ≤ sizeLine := by rw [sizeLine_eq]; simp; omega
  rcases (by omega : fg = 0 ∨ fg = 1) with rfl | rfl
  · obtain ⟨hD, hl⟩ := hf0 rfl
    repeat' walk1
    rename_i Fa Na
    refine item_tmp (News.isList Na (.head _)) (by decide) (by decide) (by rfl) ?_
    repeat' walk1
    refine split_w (vs := [.str (T l1) t1, .str (T l2) t2]) (css := [P1, P2]) S PT (by omega) hh Fa Na (News.isList Na (.tail _ (.tail _ (.head _)))) rfl (by simp) ?_ ?_
    · intro i v hv
      rcases i with _ | _ | i
      · simp at hv; subst hv; exact ⟨l1, t1, P1, rfl, rfl, r1, n1, b1⟩
      · simp at hv; subst hv; exact ⟨l2, t2, P2, rfl, rfl, r2, n2, b2⟩
      · simp at hv
    intro h5 tk5 r rits F5 N5 hlr hpr
    have hmem := Led.mem_all N5
    have hns : ∀ q ∈ n, q ∈ everything h₀ L h5 := fun q hq => hmem q (.tail _ (.tail _ (.tail _ hq)))
    have NA := News.all h₀ L h5
    clear Fa Na
    clear N5
    rw [cut_eq many 0 (by decide)] at F5
    repeat' walk1
    refine slice_list3 (s := ⟨_, _, _, _, _⟩) F5 NA (ld.now F5 NA hns) .none (.int _ _) .none (by decide) (fun h6 F6 N6 => ?_) (by with_unfolding_all rfl) (by intro _; with_unfolding_all rfl) hdv
    repeat' walk1
    refine slice_list3 (s := ⟨_, _, _, _, _⟩) F6 N6 (ld.now F6 N6 fun q hq => .tail _ (hns q hq)) (.int _ _) .none .none (by decide) (fun h7 F7 N7 => ?_) (by with_unfolding_all rfl) (by intro _; with_unfolding_all rfl) hdv
    repeat' walk1
    rename_i F8 N8
    have ks := seq_keep F5 F8 N8 fun q hq => .tail _ (.tail _ (.tail _ hq))
    have hcut : (many / 2 + 1 - 0 = D.length / 2 + 1 ∨ many / 2 + 1 - 0 = D.length / 2) := by omega
    obtain ⟨pk1, pk2⟩ := pick_cut ho hcut
    have hPA : D.take (many / 2 + 1 - 0) = P1 := by
      rw [hD, List.take_left' (by omega)]
    have hPB : D.drop (many / 2 + 1 - 0) = P2 := by
      rw [hD, List.drop_left' (by omega)]
    refine ne_piles (IsList.move ks hlr) (PilesAt.move ks hpr) (News.isList N8 (.head _)) (.cons (News.isList N8 (.tail _ (.tail _ (.head _)))) (by rw [← hPA, ← pk1]; exact (cd.pick _ _ _).now F8 N8 fun q hq => .tail _ (.tail _ (.tail _ (hns q hq)))) (.cons (News.isList N8 (.tail _ (.head _))) (by rw [← hPB, ← pk2]; exact (cd.pick _ _ _).now F8 N8 fun q hq => .tail _ (.tail _ (.tail _ (hns q hq)))) .nil)) ?_ (by omega) ?_
    · intro cs' hcs c hc
      simp only [List.mem_cons, List.not_mem_nil, or_false] at hcs
      refine good_str (hg c ?_)
      rw [hD]
      rcases hcs with rfl | rfl
      · exact List.mem_append_left _ hc
      · exact List.mem_append_right _ hc
    repeat' walk1
    exact h _ _ _ F8 (News.sub N8 fun q hq => .tail _ (.tail _ (.tail _ (hns q hq)))) ⟨rfl, rfl, trivial⟩
  · obtain ⟨hD, hl⟩ := hf1 rfl
    repeat' walk1
    rename_i Fa Na
    refine item_tmp (News.isList Na (.head _)) (by decide) (by decide) (by rfl) ?_
    repeat' walk1
    refine split_w (vs := [.str (T l2) t2, .str (T l1) t1]) (css := [P2, P1]) S PT (by omega) hh Fa Na (News.isList Na (.tail _ (.head _))) rfl (by simp) ?_ ?_
    · intro i v hv
      rcases i with _ | _ | i
      · simp at hv; subst hv; exact ⟨l2, t2, P2, rfl, rfl, r2, n2, b2⟩
      · simp at hv; subst hv; exact ⟨l1, t1, P1, rfl, rfl, r1, n1, b1⟩
      · simp at hv
    intro h5 tk5 r rits F5 N5 hlr hpr
    have hmem := Led.mem_all N5
    have hns : ∀ q ∈ n, q ∈ everything h₀ L h5 := fun q hq => hmem q (.tail _ (.tail _ (.tail _ hq)))
    have NA := News.all h₀ L h5
    clear Fa Na
    clear N5
    rw [cut_eq many 1 (by decide)] at F5
    repeat' walk1
    refine slice_list3 (s := ⟨_, _, _, _, _⟩) F5 NA (ld.now F5 NA hns) .none (.int _ _) .none (by decide) (fun h6 F6 N6 => ?_) (by with_unfolding_all rfl) (by intro _; with_unfolding_all rfl) hdv
    repeat' walk1
    refine slice_list3 (s := ⟨_, _, _, _, _⟩) F6 N6 (ld.now F6 N6 fun q hq => .tail _ (hns q hq)) (.int _ _) .none .none (by decide) (fun h7 F7 N7 => ?_) (by with_unfolding_all rfl) (by intro _; with_unfolding_all rfl) hdv
    repeat' walk1
    rename_i F8 N8
    have ks := seq_keep F5 F8 N8 fun q hq => .tail _ (.tail _ (.tail _ hq))
    have hcut : (many / 2 + 1 - 1 = D.length / 2 + 1 ∨ many / 2 + 1 - 1 = D.length / 2) := by omega
    obtain ⟨pk1, pk2⟩ := pick_cut ho hcut
    have hPA : D.take (many / 2 + 1 - 1) = P2 := by
      rw [hD, List.take_left' (by omega)]
    have hPB : D.drop (many / 2 + 1 - 1) = P1 := by
      rw [hD, List.drop_left' (by omega)]
    refine ne_piles (IsList.move ks hlr) (PilesAt.move ks hpr) (News.isList N8 (.head _)) (.cons (News.isList N8 (.tail _ (.tail _ (.head _)))) (by rw [← hPA, ← pk1]; exact (cd.pick _ _ _).now F8 N8 fun q hq => .tail _ (.tail _ (.tail _ (hns q hq)))) (.cons (News.isList N8 (.tail _ (.head _))) (by rw [← hPB, ← pk2]; exact (cd.pick _ _ _).now F8 N8 fun q hq => .tail _ (.tail _ (.tail _ (hns q hq)))) .nil)) ?_ (by omega) ?_
    · intro cs' hcs c hc
      simp only [List.mem_cons, List.not_mem_nil, or_false] at hcs
      refine good_str (hg c ?_)
      rw [hD]
      rcases hcs with rfl | rfl
      · exact List.mem_append_left _ hc
      · exact List.mem_append_right _ hc
    repeat' walk1
    exact h _ _ _ F8 (News.sub N8 fun q hq => .tail _ (.tail _ (.tail _ (hns q hq)))) ⟨rfl, rfl, trivial⟩
end Mine

namespace Mine
set_option maxRecDepth 100000
theorem LstP.monoC {P P' : Addr → Obj → Prop} (h : ∀ a o, P a o → (o.cls = .type "list" ∨ o.cls = .type "tuple") → P' a o) {a vs} (x : LstP P a vs) : LstP P' a vs :=
  let ⟨o, n, h1, h2, h3⟩ := x; ⟨o, n, h _ _ h1 (.inl h2), h2, h3⟩
theorem CardsP.monoC {P P' : Addr → Obj → Prop} (h : ∀ a o, P a o → (o.cls = .type "list" ∨ o.cls = .type "tuple") → P' a o) {vs cs} (x : CardsP P vs cs) : CardsP P' vs cs := by
  induction x with
  | nil => exact .nil
  | cons h1 h2 h3 _ ih => exact .cons (h _ _ h1 (.inr h2)) h2 h3 ih
theorem LawSt.drop {h₀ h : Heap} {L I : Addr} {oI : Obj} {n : Led} {ca da : Addr} {cvs dvs : List Value} {cs ds : List Card} {many wish : Nat} (N : News h₀ L h n) (hI : (I, oI) ∈ n) (hc : oI.cls = .type "range_iterator")
    (hL : L + 1 ≠ I ∧ L + 2 ≠ I ∧ L + 3 ≠ I ∧ L + 4 ≠ I) (x : LawSt h₀ L n ca da cvs dvs cs ds many wish) : LawSt h₀ L (n.filter fun q => q.1 != I) ca da cvs dvs cs ds many wish := by
  obtain ⟨⟨o1, m1, d1⟩, ⟨o2, t2, m2, d2⟩, ⟨o3, t3, m3, d3⟩, ⟨o4, v4, m4, d4⟩, lc, cc, ld, cd⟩ := x
  have up : ∀ a o, Sto h₀ n a o → (o.cls = .type "list" ∨ o.cls = .type "tuple") → Sto h₀ (n.filter fun q => q.1 != I) a o := by
    intro a o hs hcl
    rcases hs with hs | hs
    · exact .inl hs
    · have : a ≠ I := News.ne_cls N hs hI (by rw [hc]; rcases hcl with e | e <;> rw [e] <;> decide)
      exact .inr (List.mem_filter.mpr ⟨hs, by simpa using this⟩)
  exact ⟨⟨o1, List.mem_filter.mpr ⟨m1, by simpa using hL.1⟩, d1⟩, ⟨o2, t2, List.mem_filter.mpr ⟨m2, by simpa using hL.2.1⟩, d2⟩, ⟨o3, t3, List.mem_filter.mpr ⟨m3, by simpa using hL.2.2.1⟩, d3⟩, ⟨o4, v4, List.mem_filter.mpr ⟨m4, by simpa using hL.2.2.2⟩, d4⟩,
    lc.monoC up, cc.monoC up, ld.monoC up, cd.monoC up⟩
def LT (h₀ : Heap) (L : Addr) (ca : Addr) (cvs : List Value) (cs : List Card) (many wish : Nat) (t : Nat) (m : Map) (n : Led) (g : Array GenState) : Prop :=
  AllBare g ∧ ∃ da dvs tt, LawSt h₀ L n ca da cvs dvs cs (deckAt cs many wish t) many wish ∧ Kn m [(Str.ofString "turns", .int ((turnsOf many : Nat) : Int) tt), (Str.ofString "deck", .ref da)]
set_option maxHeartbeats 4000000 in
theorem law_turn {w : World} {A : Around} {s : Shared} {h₀ h : Heap} {L I ca many wish t tk : Nat} {oI : Obj} {mg mb m : Map} {n : Led} {g : Array GenState} {cvs : List Value} {cs : List Card} {ut : Tok} {Q : Flow → Shared → Prop}
    (S : Stat mg mb h₀) (PT : Pats h₀) (hd : A.depth + 20 < recursionLimit) (hh : A.handled = none) (hu : A.units + 80 < cLine) (ht : t < turnsOf many) (hm : many = 5 ∨ many = 7 ∨ many = 9) (hw : wish < 16) (hdk : DeckOk many cs)
    (F : Fr h₀ L h (fun y => if y = Str.ofString "turn" then some (.int ((t : Nat) : Int) ut) else m y)) (N : News h₀ L h ((I, oI) :: n)) (hne : ∀ p ∈ n, p.1 ≠ I) (hcI : oI.cls = .type "range_iterator") (K : LT h₀ L ca cvs cs many wish t m n g)
    (hq : ∀ s₃, TurnEnd h₀ L (LT h₀ L ca cvs cs many wish (t + 1)) I oI s s₃ → Q .next s₃) :
    wpAny (model pw w) A (execs turnB (lawX L)) Q (fun _ _ => False) { s with heap := h, toks := tk, gens := g } := by
  obtain ⟨hb, da, dvs, tt, st, hkn⟩ := K
  have hm0 : 0 < many := by omega
  have h9 : many ≤ 9 := by omega
  have ht4 : t < 4 := by unfold turnsOf at ht; split at ht <;> omega
  have hDl := deck_len cs many wish t
  have hg := deck_good (wish := wish) (t := t) hm0 h9 hdk
  have hg' := deck_good (wish := wish) (t := t + 1) hm0 h9 hdk
  have hstep := deck_step (cs := cs) (wish := wish) hm ht4
  have hDl' := deck_len cs many wish (t + 1)
  generalize hD : deckAt cs many wish t = D at *
  generalize hD' : deckAt cs many wish (t + 1) = D' at *
  have ho : OddLen D := by unfold OddLen; omega
  have ho' : OddLen D' := by unfold OddLen; omega
  have hneD : D ≠ [] := by rintro rfl; simp at hDl; omega
  have hL : L + 1 ≠ I ∧ L + 2 ≠ I ∧ L + 3 ≠ I ∧ L + 4 ≠ I := by
    obtain ⟨⟨o1, m1, _⟩, ⟨o2, _, m2, _⟩, ⟨o3, _, m3, _⟩, ⟨o4, _, m4, _⟩, -⟩ := st
    exact ⟨hne _ m1, hne _ m2, hne _ m3, hne _ m4⟩
  refine seg_row S hh F N (st.up fun _ hq => .tail _ hq) (by omega) (tv := .int ((turnsOf many : Nat) : Int) tt) (uv := .int ((t : Nat) : Int) ut) ⟨(if_neg (by decide)).trans hkn.2.1, (if_neg (by decide)).trans hkn.1, rfl, trivial⟩ ?_
  intro h1 tk1 m1 n1 ra rvs F1 N1 hs1 hlr hcr hk1
  have st1 := st.up (n' := n1) fun q hq => hs1 q (.tail _ hq)
  refine seg_text S PT hd hh F1 N1 st1 hlr hcr hg (by omega) hneD hk1 ?_
  intro h2 tk2 m2 x1 x2 F2 N2 hk2
  obtain ⟨q0, -, q1, q2, q3, q4⟩ := sq_facts hneD
  refine seg_bent S hd hh F2 N2 (lawL_len (by decide) hg (by omega)) (lawL_pos hneD) q1 q2 q3 q4 hk2 ?_
  intro h3 tk3 m3 F3 N3 hk3
  refine seg_strip S hd hh F3 N3 st1 hb hg ho hk3 ?_
  intro h4 tk4 g4 m4 t3 t4 hb4 F4 N4 hk4
  obtain ⟨k41, k42, -, k43, k44, -⟩ := hk4
  refine seg_fig (dv := .none) (tt := 0) (s := ⟨h4, g4, _, tk4, _⟩) S hh F4 N4 st1 ht4 hw ⟨k41, k42, k43, k44, trivial⟩ ?_
  intro h5 tk5 m5 n5 t5 t6 o5 F5 N5 st5 mo5 do5 hs5 hk5
  refine seg_deck (s := ⟨h5, g4, _, tk5, _⟩) S hh F5 N5 st5 ht4 hw mo5 do5 hm0 h9 hdk.1 hk5 ?_
  rw [hD']
  intro h6 tk6 m6 n6 da6 dvs6 F6 N6 st6 hs6 hls6 hk6
  obtain ⟨k61, k62, k63, k64, k65, k66, -⟩ := hk6
  have hIn : (I, oI) ∈ n6 := hs6 _ (hs5 _ (hs1 _ (.head _)) hL.2.2.2.symm)
  have hevl : (ev D).length = many / 2 + 1 ∧ (od D).length = many / 2 := by
    rcases odd_form ho with ⟨a, b, c, d, e, rfl⟩ | ⟨a, b, c, d, e, f, g, rfl⟩ | ⟨a, b, c, d, e, f, g, i, j, rfl⟩ <;> (rw [← hDl]; exact ⟨by simp [ev], by simp [od]⟩)
  have hevg : ∀ c ∈ ev D, GoodC c := fun c hc => hg c (ev_mem hc)
  have hodg : ∀ c ∈ od D, GoodC c := fun c hc => hg c (od_mem hc)
  have hev0 : ev D ≠ [] := by intro e; rw [e] at hevl; simp at hevl
  have hod0 : od D ≠ [] := by intro e; rw [e] at hevl; simp at hevl; omega
  refine seg_split (s := ⟨h6, g4, _, tk6, _⟩) (P1 := ev D) (P2 := od D) S PT hd hh hu F6 N6 st6 ho' hDl'.symm hg' (by omega) ?_ ?_ (reads_law hevg hev0) (reads_law hodg hod0) ?_ ?_ hev0 hod0 ⟨k61, k62, k63, k64, k65, k66, trivial⟩ ?_
  · intro hf; rw [if_pos hf] at hstep; exact ⟨hstep, hevl.1⟩
  · intro hf; rw [if_neg (by omega)] at hstep; exact ⟨hstep, hevl.2⟩
  · have := lawL_len (mk := []) (by decide) hevg (by omega); omega
  · have := lawL_len (mk := []) (by decide) hodg (by omega); omega
  intro h7 tk7 m7 F7 N7 hk7
  refine hq _ ⟨h7, tk7, g4, m7, n6.filter fun q => q.1 != I, rfl, F7, fun q hq => ?_, fun q hq => by simpa using (List.mem_filter.mp hq).2, hb4, da6, dvs6, tt, ?_, hk7.1, hk7.2.1, trivial⟩
  · rcases List.mem_cons.mp hq with rfl | hq
    · exact N7 _ hIn
    · exact N7 _ (List.mem_filter.mp hq).1
  · rw [hD']
    exact st6.drop N7 hIn hcI hL
end Mine

namespace Mine
set_option maxRecDepth 100000
section
variable {w : World} {A : Around} {E : Value → Shared → Prop} {s : Shared} {h₀ : Heap} {L : Addr} {mg mb m : Map} {n : Led}
theorem text_w {l : Addr} {its : Array Value} {cs : List Card} {mk : List Nat} {mks : Str} {tm : Tok} {Q : Value → Shared → Prop} (S : Stat mg mb h₀) (hd : A.depth + 20 < recursionLimit) (hh : A.handled = none) (F : Fr h₀ L s.heap m) (N : News h₀ L s.heap n)
    (hl : s.heap.IsList l its) (hc : CardsAt s.heap its.toList cs) (hg : ∀ c ∈ cs, GoodC c) (h9 : cs.length ≤ 9) (hmk : mks = T mk) (hm1 : mk.length ≤ 1)
    (h : ∀ h' tk t, Fr h₀ L h' m → News h₀ L h' n → Q (.str (T (lawL mk cs)) t) { s with heap := h', toks := tk }) : wpAny (model pw w) A (call (.ref 122) [.ref l, .str mks tm]) Q E s := by
  subst hmk
  refine wpAny_call (law_text_call (cs := cs) (vs := its.toList) ((S.keeps F.keep).defs (122, 18, 121) (by decide)) (S.keeps F.keep).nolimit (by omega) hh (by rw [Array.toArray_toList]; exact hl) hc (fun c hc => good_small (hg c hc)) h9 (by rw [T_len]; exact hm1) ?_)
  intro h' tk t keep
  rw [lawFold_T]
  exact h h' tk t (Fr.more F keep) (News.more' N keep)
theorem strip_w {x : Str} {t : Tok} {Q : Value → Shared → Prop} (S : Stat mg mb h₀) (hd : A.depth + 20 < recursionLimit) (hh : A.handled = none) (F : Fr h₀ L s.heap m) (N : News h₀ L s.heap n) (hb : AllBare s.gens) (hx : x.length ≤ 300)
    (h : ∀ h' tk g' t, AllBare g' → Fr h₀ L h' m → News h₀ L h' n → Q (.str (stripV x) t) { s with heap := h', toks := tk, gens := g' }) : wpAny (model pw w) A (call (.ref 45) [.str x t]) Q E s := by
  refine wpAny_call (strip_call (S.keeps F.keep) (by omega) hh hx ?_)
  intro h' tk t' g' keep hg
  exact h h' tk g' t' (AllBare.or hb hg) (Fr.more F keep) (News.more' N keep)
end
local macro_rules | `(tactic| walk_at "eval Name") => `(tactic| first | (refine gnameX (by assumption) (by assumption) (by rfl) ?_) | (refine bnameX (by assumption) (by assumption) (by decide) (by first | exact bb_len | exact bb_sum | exact bb_range) ?_) | (refine nameX_L (by assumption) (by rfl) ?_) | (refine nameX_C (by assumption) (by rfl) (by repeat (first | assumption | apply List.mem_cons_of_mem)) (by assumption) ?_))
local macro_rules | `(tactic| walk_at "storeName") => `(tactic| first | (refine storeX_L (by assumption) (by assumption) ?_; intro _ _ _) | (refine storeC (by assumption) (by assumption) (by rfl) (by repeat (first | assumption | apply List.mem_cons_of_mem)) (by assumption) ?_; intro _ _ _ _ _))
local macro_rules | `(tactic| walk_at "callWith ref") => `(tactic| (refine callWith_st (by assumption) (by rfl) ?_))
local macro_rules | `(tactic| walk_at "call type:range") => `(tactic| refine Hold.intro ?_)
local macro_rules | `(tactic| walk_at "subscriptTail") => `(tactic| ((with_reducible show wpAny _ _ (subscriptTail _ _ (Value.ref _) _) _ _ _); refine Hold.intro ?_))
local macro_rules | `(tactic| walk_at "call builtin:sum") => `(tactic| refine Hold.intro ?_)
local macro_rules | `(tactic| walk_at "call builtin:len") => `(tactic| refine Hold.intro ?_)
local macro_rules | `(tactic| walk_at "call ref") => `(tactic| refine Hold.intro ?_)
local macro_rules | `(tactic| walk_at "binaryOp Pow int int") => `(tactic| refine Hold.intro ?_)
local macro_rules | `(tactic| walk_at "binaryOp Mod") => `(tactic| refine Hold.intro ?_)
local macro_rules | `(tactic| walk_at "binaryOp Add ref ref") => `(tactic| refine Hold.intro ?_)
local macro_rules | `(tactic| walk_at "subscriptTail Name Slice ref ref") => `(tactic| refine Hold.intro ?_)
local macro_rules | `(tactic| walk_at "compareOp Eq ref ref") => `(tactic| refine Hold.intro ?_)
local macro_rules | `(tactic| walk_at "eval ListComp") => `(tactic| refine Hold.intro ?_)
local macro_rules | `(tactic| walk_at "execs cons") => `(tactic| ((with_reducible show wpAny _ _ (execs (Stmt.Assign [Expr.Name (Str.ofString "plain") _] _ _ :: _) _) _ _ _); refine Hold.intro ?_))
set_option maxHeartbeats 4000000 in
theorem tail1 {w : World} {A : Around} {s : Shared} {h₀ : Heap} {L : Addr} {mg mb m : Map} {n : Led} {ca da many wish : Nat} {cvs dvs : List Value} {cs D : List Card} {Q : Flow → Shared → Prop}
    (S : Stat mg mb h₀) (hd : A.depth + 20 < recursionLimit) (hh : A.handled = none) (F : Fr h₀ L s.heap m) (N : News h₀ L s.heap n) (st : LawSt h₀ L n ca da cvs dvs cs D many wish) (hb : AllBare s.gens)
    (hg : ∀ c ∈ D, GoodC c) (ho : OddLen D) (hkn : Kn m [(Str.ofString "deck", .ref da)])
    (h : ∀ h' tk g' m' t1, AllBare g' → Fr h₀ L h' m' → News h₀ L h' n → Kn m' [(Str.ofString "deck", .ref da), (Str.ofString "left", .str (T (92 :: 92 :: (lawL [] (od D) ++ 34 :: lawL [] (D.drop (D.length - 1))))) t1)] →
      wpAny (model pw w) A (execs ((bodyOf (stm 19)).drop 10) (lawX L)) Q (fun _ _ => False) { s with heap := h', toks := tk, gens := g' }) :
    wpAny (model pw w) A (execs ((bodyOf (stm 19)).drop 6) (lawX L)) Q (fun _ _ => False) s := by
  obtain ⟨bd, hbd⟩ : ∃ b, b = bodyOf (stm 19) := ⟨_, rfl⟩
  rw [← hbd] at h ⊢
  conv at hbd => rhs; whnf
  subst hbd
  dsimp only [List.drop] at h ⊢
  replace F := Fr.kn F hkn
  dsimp only [over] at F
  have h9 : D.length ≤ 9 := by rcases ho with e | e | e <;> omega
  have hodd : D.length % 2 = 1 := by rcases ho with e | e | e <;> omega
  have h3 : 3 ≤ D.length := by rcases ho with e | e | e <;> omega
  have hneD : D ≠ [] := by rintro rfl; simp at h3
  have hXl := lawL_len (mk := [34]) (by decide) hg h9
  have hX5 := lawL_pos hneD
  have hTX : (T (lawL [34] D)).length ≤ 300 := by rw [T_len]; omega
  have hdl := st.cd.length
  have hdv : dvs.toArray.size ≤ sizeLine := by rw [sizeLine_eq]; simp; omega
  have hevg : ∀ c ∈ ev D, GoodC c := fun c hc => hg c (ev_mem hc)
  have hodg : ∀ c ∈ od D, GoodC c := fun c hc => hg c (od_mem hc)
  have hlg : ∀ c ∈ D.drop (D.length - 1), GoodC c := fun c hc => hg c (List.mem_of_mem_drop hc)
  have hel : (ev D).length ≤ 9 ∧ (od D).length ≤ 9 ∧ (D.drop (D.length - 1)).length ≤ 9 := by
    rcases odd_form ho with ⟨a, b, c, d, e, rfl⟩ | ⟨a, b, c, d, e, f, g, rfl⟩ | ⟨a, b, c, d, e, f, g, i, j, rfl⟩ <;> exact ⟨by simp [ev], by simp [od], by simp⟩
  have he1 := lawL_len (mk := []) (by decide) hevg hel.1
  have ho1 := lawL_len (mk := []) (by decide) hodg hel.2.1
  have hl1 := lawL_len (mk := []) (by decide) hlg hel.2.2
  repeat' walk1
  refine text_w S hd hh F N ((st.ld.now F N fun _ hq => hq)) (by rw [List.toList_toArray]; exact st.cd.now F N fun _ hq => hq) hg h9 mk34 (by decide) ?_
  intro h1 tk1 t1 F1 N1
  clear F
  repeat' walk1
  have ebb : Str.ofString "\\\\" = T [92, 92] := by decide
  have eb1 : Str.ofString "\\" = T [92] := by decide
  have ebm : Str.ofString "\\\"" = T [92, 34] := by decide
  have eL : Str.ofString "\\\\" ++ Txt.slice (T (lawL [34] D)) none (some (-1)) = T (92 :: 92 :: (lawL [34] D).dropLast) := by
    rw [T_slice_to_neg (by omega), ebb, T_app]; rfl
  rw [eL]
  refine strip_w S hd hh (by assumption) (by assumption) hb (by rw [T_len]; simp; omega) ?_
  intro h2 tk2 g2 t2 hb2 F2 N2
  rw [law_left hg hodd h3]
  repeat' walk1
  rename_i Fb Nb
  refine slice_list3 (s := ⟨_, _, _, _, _⟩) Fb Nb (st.ld.now Fb Nb fun _ hq => hq) (.int _ _) .none (.int _ _) (by decide) (fun h3' F3 N3 => ?_) (by with_unfolding_all rfl) (by intro _; with_unfolding_all rfl) hdv
  repeat' walk1
  refine text_w (cs := od D) S hd hh F3 N3 (News.isList N3 (.head _)) (by rw [← pick_od ho]; exact (st.cd.pick _ _ _).now F3 N3 fun _ hq => .tail _ hq) hodg hel.2.1 mk0 (by decide) ?_
  intro h4 tk4 t4 F4 N4
  clear Fb Nb F3 N3
  have hTo : (T (lawL [] (od D))).length ≤ 100 := by rw [T_len]; exact ho1
  have hTe : (T (lawL [] (ev D))).length ≤ 100 := by rw [T_len]; exact he1
  have hTl : (T (lawL [] (D.drop (D.length - 1)))).length ≤ 100 := by rw [T_len]; exact hl1
  have hbbl : (Str.ofString "\\\\").length = 2 := by decide
  have hbml : (Str.ofString "\\\"").length = 2 := by decide
  have hb1l : (Str.ofString "\\").length = 1 := by decide
  have hml : (Str.ofString "\"").length = 1 := by decide
  repeat' walk1
  refine slice_list3 (s := ⟨_, _, _, _, _⟩) F4 N4 (st.ld.now F4 N4 fun _ hq => .tail _ hq) (.int _ _) .none .none (by decide) (fun h5' F5 N5 => ?_) (by with_unfolding_all rfl) (by intro _; with_unfolding_all rfl) hdv
  repeat' walk1
  refine text_w (cs := D.drop (D.length - 1)) S hd hh F5 N5 (News.isList N5 (.head _)) (by rw [← pick_last ho]; exact (st.cd.pick _ _ _).now F5 N5 fun _ hq => .tail _ (.tail _ hq)) hlg hel.2.2 mk0 (by decide) ?_
  intro h6 tk6 t6 F6 N6
  have e8 : Str.ofString "\\\\" ++ T (lawL [] (od D)) ++ Str.ofString "\"" ++ T (lawL [] (D.drop (D.length - 1))) = T (92 :: 92 :: (lawL [] (od D) ++ 34 :: lawL [] (D.drop (D.length - 1)))) := by
    rw [ebb, mk34, T_app, T_app, T_app, T_inj]; simp
  replace N6 := News.sub N6 (n' := n) fun q hq => .tail _ (.tail _ hq)
  clear F5 N5 F4 N4
  repeat' walk1
  · rename_i hx
    rw [e8] at hx
    exact (ne_self hx).elim
  have eB : Str.ofString "\\" ++ T (lawL [34] D) = T (92 :: lawL [34] D) := by rw [eb1, T_app]; rfl
  rw [eB]
  refine strip_w S hd hh (by assumption) (by assumption) hb2 (by rw [T_len]; simp; omega) ?_
  intro h7 tk7 g7 t7 hb7 F7 N7
  rw [law_bent hg hodd h3]
  repeat' walk1
  refine slice_list3 (s := ⟨_, _, _, _, _⟩) F7 N7 (st.ld.now F7 N7 fun _ hq => hq) (.int _ _) .none (.int _ _) (by decide) (fun h8' F8 N8 => ?_) (by with_unfolding_all rfl) (by intro _; with_unfolding_all rfl) hdv
  repeat' walk1
  refine text_w (cs := ev D) S hd hh F8 N8 (News.isList N8 (.head _)) (by rw [← pick_ev ho]; exact (st.cd.pick _ _ _).now F8 N8 fun _ hq => .tail _ hq) hevg hel.1 mk0 (by decide) ?_
  intro h9' tk9 t9 F9 N9
  have e9 : Str.ofString "\\\"" ++ T (lawL [] (ev D)) ++ Str.ofString "\"" = T (92 :: 34 :: (lawL [] (ev D) ++ [34])) := by
    rw [ebm, mk34, T_app, T_app, T_inj]; simp
  replace N9 := News.sub N9 (n' := n) fun q hq => .tail _ hq
  clear F8 N8
  repeat' walk1
  · rename_i hx
    rw [e9] at hx
    exact (ne_self hx).elim
  · exact h _ _ g7 _ t2 hb7 (by assumption) (by assumption) ⟨rfl, rfl, trivial⟩
end Mine

namespace Mine
set_option maxRecDepth 100000
def plainE : Expr := match (bodyOf (stm 19)).getD 10 (.Pass default) with
  | .Assign _ (.Call _ (e :: _) _ _) _ => e
  | _ => default
def lcElt : Expr → Expr
  | .ListComp e _ _ _ => e
  | _ => default
def lcScope : Expr → Scope
  | .ListComp _ _ s _ => s
  | _ => default
def lcTests : Expr → List Expr
  | .ListComp _ (g :: _) _ _ => g.ifs
  | _ => []
theorem plain_clos (L : Addr) : closureFor (lcScope plainE) (lawX L) = pure [] := by rfl
local macro_rules | `(tactic| walk_at "eval Name") => `(tactic| (refine wpAny_Name (wpAny_loadName_local (by rfl) (by rfl) (Fr.ns (by assumption)) (by assumption) ?_) (by decide)))
set_option maxHeartbeats 4000000 in
theorem plain_test {w : World} {A : Around} {s : Shared} {hb : Heap} {C L a : Nat} {m : Map} {k : Str} {v2 : Value} {t : Tok} {E : Value → Shared → Prop}
    (F : Fr hb C s.heap m) (hx : m (Str.ofString "card") = some (.ref a)) (htup : IsTup s.heap a #[.str k t, v2]) :
    wpAny (model pw w) A (forIn (lcTests plainE) true fun c r => if r = true then do let ok ← PySem.isTrue c (compEnvC (lcScope plainE) [] C (lawX L)) (eval c (compEnvC (lcScope plainE) [] C (lawX L))); pure (ForInStep.yield ok) else pure (ForInStep.yield r))
      (fun ok s₄ => ok = (Builtin.Str.occurrences k (Str.ofString "\"") 0 k.length 1).isEmpty ∧ Keeps s s₄) E s := by
  obtain ⟨te, hte⟩ : ∃ e, e = lcTests plainE := ⟨_, rfl⟩
  rw [← hte]
  conv at hte => rhs; whnf
  subst hte
  have N : News hb C s.heap [] := News.nil
  rw [List.forIn_cons]
  refine wpAny_bind ?_
  rw [if_pos rfl]
  refine wpAny_bind ?_
  repeat' walk1
  rw [Bool.not_not]
  exact wpAny_pure (wpAny_pure ⟨rfl, _, _, rfl, fun _ _ e => e⟩)
theorem plain_elt {w : World} {A : Around} {s : Shared} {hb : Heap} {C L : Nat} {m : Map} {v : Value} {E : Value → Shared → Prop}
    (F : Fr hb C s.heap m) (hx : m (Str.ofString "card") = some v) :
    wpAny (model pw w) A (eval (lcElt plainE) (compEnvC (lcScope plainE) [] C (lawX L))) (fun y s₄ => y = v ∧ Keeps s s₄) E s := by
  obtain ⟨te, hte⟩ : ∃ e, e = lcElt plainE := ⟨_, rfl⟩
  rw [← hte]
  conv at hte => rhs; whnf
  subst hte
  repeat' walk1
  exact ⟨_, _, rfl, fun _ _ e => e⟩
/-- the key of a card, by the heap -/
noncomputable def keyOf (h : Heap) (v : Value) : Str := by
  classical
  exact if x : ∃ c, CardAt h v c then x.choose.1 else Str.ofString ""
theorem keyOf_eq {h : Heap} {v : Value} {c : Card} (x : CardAt h v c) : keyOf h v = c.1 := by
  unfold keyOf
  have hx : ∃ c, CardAt h v c := ⟨c, x⟩
  rw [dif_pos hx]
  obtain ⟨a, t, t', rfl, o, ho, _, n, hd⟩ := hx.choose_spec
  obtain ⟨a2, u, u', e, o2, ho2, _, n2, hd2⟩ := x
  cases e
  rw [ho] at ho2; cases ho2
  rw [hd] at hd2
  injection hd2 with e1 _
  have := congrArg (fun x => x.toList) e1
  simp at this
  exact this.1.1
theorem filter_cards {h : Heap} {vs : List Value} {cs : List Card} (x : CardsAt h vs cs) (p : Value → Bool) (hp : ∀ v c, CardAt h v c → p v = true → 34 ∉ c.1.cps.toList) : ∃ ds, CardsAt h (vs.filter p) ds ∧ (∀ c ∈ ds, c ∈ cs ∧ 34 ∉ c.1.cps.toList) ∧ ds.length ≤ cs.length := by
  induction x with
  | nil => exact ⟨[], .nil, fun _ h => (nomatch h), Nat.le_refl _⟩
  | @cons v vs c cs a _ ih =>
    obtain ⟨ds, h1, h2, h3⟩ := ih
    by_cases hv : p v = true
    · refine ⟨c :: ds, by rw [List.filter_cons_of_pos hv]; exact .cons a h1, fun d hd => ?_, by simp; exact h3⟩
      rcases List.mem_cons.mp hd with rfl | hd
      · exact ⟨.head _, hp v _ a hv⟩
      · exact ⟨.tail _ (h2 d hd).1, (h2 d hd).2⟩
    · exact ⟨ds, by rw [List.filter_cons_of_neg hv]; exact h1, fun d hd => ⟨.tail _ (h2 d hd).1, (h2 d hd).2⟩, Nat.le_succ_of_le h3⟩
theorem plain_no34 {ds : List Card} (hg : ∀ c ∈ ds, GoodC c) (h : ∀ c ∈ ds, 34 ∉ c.1.cps.toList) : 34 ∉ lawL [] ds := by
  rw [lawL_nil]
  intro hm
  obtain ⟨x, hx, h34⟩ := List.mem_flatten.mp hm
  obtain ⟨c, hc, rfl⟩ := List.mem_map.mp hx
  have h1 := h c hc
  obtain ⟨a, ha, s, hs, v, hv, rfl⟩ := good_form (hg c hc)
  simp only [cardL, List.mem_append, List.mem_cons, List.not_mem_nil, or_false] at h34
  rcases h34 with h34 | h34 | h34 | h34
  · omega
  · exact h1 (by simpa using h34)
  · simp only [valsL, List.mem_cons, List.not_mem_nil, or_false] at hv
    rcases hv with rfl | rfl | rfl
    · simp [valL] at h34
    · simp [valL] at h34
    · simp [valL] at h34
  · omega
end Mine

namespace Mine
set_option maxRecDepth 100000
local macro_rules | `(tactic| walk_at "eval Name") => `(tactic| first | (refine gnameX (by assumption) (by assumption) (by rfl) ?_) | (refine bnameX (by assumption) (by assumption) (by decide) (by first | exact bb_len | exact bb_sum | exact bb_range) ?_) | (refine nameX_L (by assumption) (by rfl) ?_) | (refine nameX_C (by assumption) (by rfl) (by repeat (first | assumption | apply List.mem_cons_of_mem)) (by assumption) ?_))
local macro_rules | `(tactic| walk_at "storeName") => `(tactic| first | (refine storeX_L (by assumption) (by assumption) ?_; intro _ _ _) | (refine storeC (by assumption) (by assumption) (by rfl) (by repeat (first | assumption | apply List.mem_cons_of_mem)) (by assumption) ?_; intro _ _ _ _ _))
local macro_rules | `(tactic| walk_at "callWith ref") => `(tactic| (refine callWith_st (by assumption) (by rfl) ?_))
local macro_rules | `(tactic| walk_at "call type:range") => `(tactic| refine Hold.intro ?_)
local macro_rules | `(tactic| walk_at "subscriptTail") => `(tactic| ((with_reducible show wpAny _ _ (subscriptTail _ _ (Value.ref _) _) _ _ _); refine Hold.intro ?_))
local macro_rules | `(tactic| walk_at "call builtin:sum") => `(tactic| refine Hold.intro ?_)
local macro_rules | `(tactic| walk_at "call builtin:len") => `(tactic| refine Hold.intro ?_)
local macro_rules | `(tactic| walk_at "call ref") => `(tactic| refine Hold.intro ?_)
local macro_rules | `(tactic| walk_at "binaryOp Pow int int") => `(tactic| refine Hold.intro ?_)
local macro_rules | `(tactic| walk_at "binaryOp Mod") => `(tactic| refine Hold.intro ?_)
local macro_rules | `(tactic| walk_at "binaryOp Add ref ref") => `(tactic| refine Hold.intro ?_)
local macro_rules | `(tactic| walk_at "subscriptTail Name Slice ref ref") => `(tactic| refine Hold.intro ?_)
local macro_rules | `(tactic| walk_at "subscriptTail Name UnaryOp ref int") => `(tactic| refine Hold.intro ?_)
local macro_rules | `(tactic| walk_at "compareOp Eq ref ref") => `(tactic| refine Hold.intro ?_)
local macro_rules | `(tactic| walk_at "eval ListComp") => `(tactic| refine Hold.intro ?_)
set_option maxHeartbeats 4000000 in
theorem tail2 {w : World} {A : Around} {s : Shared} {h₀ : Heap} {L : Addr} {mg mb m : Map} {n : Led} {ca da many wish : Nat} {cvs dvs : List Value} {cs D : List Card} {t1 : Tok} {Q : Flow → Shared → Prop}
    (S : Stat mg mb h₀) (PT : Pats h₀) (hd : A.depth + 20 < recursionLimit) (hh : A.handled = none) (hu : A.units + 80 < cLine) (F : Fr h₀ L s.heap m) (N : News h₀ L s.heap n) (st : LawSt h₀ L n ca da cvs dvs cs D many wish) (hb : AllBare s.gens)
    (hg : ∀ c ∈ D, GoodC c) (ho : OddLen D) (hkn : Kn m [(Str.ofString "deck", .ref da), (Str.ofString "left", .str (T (92 :: 92 :: (lawL [] (od D) ++ 34 :: lawL [] (D.drop (D.length - 1))))) t1)])
    (h : ∀ h' tk g' m', AllBare g' → Fr h₀ L h' m' → Q (.ret (.bool true)) { s with heap := h', toks := tk, gens := g' }) :
    wpAny (model pw w) A (execs ((bodyOf (stm 19)).drop 10) (lawX L)) Q (fun _ _ => False) s := by
  obtain ⟨bd, hbd⟩ : ∃ b, b = bodyOf (stm 19) := ⟨_, rfl⟩
  rw [← hbd]
  conv at hbd => rhs; whnf
  subst hbd
  dsimp only [List.drop]
  replace F := Fr.kn F hkn
  dsimp only [over] at F
  have h9 : D.length ≤ 9 := by rcases ho with e | e | e <;> omega
  have h5 : 5 ≤ D.length := by rcases ho with e | e | e <;> omega
  have hdl := st.cd.length
  have hdv : dvs.toArray.size ≤ sizeLine := by rw [sizeLine_eq]; simp; omega
  have hodg : ∀ c ∈ od D, GoodC c := fun c hc => hg c (od_mem hc)
  have hol : (od D).length ≤ 9 ∧ od D ≠ [] := by
    rcases odd_form ho with ⟨a, b, c, d, e, rfl⟩ | ⟨a, b, c, d, e, f, g, rfl⟩ | ⟨a, b, c, d, e, f, g, i, j, rfl⟩ <;> exact ⟨by simp [od], by simp [od]⟩
  obtain ⟨d, hdD, hdrop⟩ : ∃ d, D[D.length - 1]? = some d ∧ D.drop (D.length - 1) = [d] := by
    rcases odd_form ho with ⟨a, b, c, d, e, rfl⟩ | ⟨a, b, c, d, e, f, g, rfl⟩ | ⟨a, b, c, d, e, f, g, i, j, rfl⟩
    · exact ⟨e, rfl, rfl⟩
    · exact ⟨g, rfl, rfl⟩
    · exact ⟨j, rfl, rfl⟩
  rw [hdrop] at F
  have hdg : GoodC d := hg d (List.mem_of_getElem? hdD)
  have hlo := lawL_len (mk := []) (by decide) hodg hol.1
  have hld := lawL_len (mk := []) (D := [d]) (by decide) (fun c hc => by rw [List.mem_singleton.mp hc]; exact hdg) (by simp)
  have hA := st.cd.now F N fun _ hq => hq
  have hl0 := st.ld.now F N fun _ hq => hq
  repeat' walk1
  refine comp_filter (cl := []) (items := dvs.toArray) (fun v => (Builtin.Str.occurrences (keyOf s.heap v) (Str.ofString "\"") 0 (keyOf s.heap v).length 1).isEmpty) hh (by simp; omega) ?iter hl0 ?test ?elt ?fin (plain_clos L)
  case iter => intro Q' hq; exact nameX_L F rfl hq
  case test =>
    intro C v s₃ m₃ E' hv F3 hx
    obtain ⟨i, hi⟩ := List.getElem?_of_mem (by simpa using hv : v ∈ dvs)
    obtain ⟨c, hc, hcv⟩ := hA.get hi
    have hcv' := hcv
    obtain ⟨a, t, t', rfl, htup⟩ := hcv
    rw [keyOf_eq hcv']
    exact plain_test F3 hx (htup.keeps F3.keep)
  case elt =>
    intro C v s₃ m₃ E' hv F3 hx
    exact plain_elt F3 hx
  case fin =>
    intro D5 h1 tk1 ys hys hlD _ keep
    have F1 := Fr.more F keep
    have N1 := News.more' N keep
    obtain ⟨ds, hds1, hds2, hds3⟩ := filter_cards hA (fun v => (Builtin.Str.occurrences (keyOf s.heap v) (Str.ofString "\"") 0 (keyOf s.heap v).length 1).isEmpty) (by
      intro v c hc hp
      rw [keyOf_eq hc, mk_eq, empty_one] at hp
      simpa using hp)
    have hdg2 : ∀ c ∈ ds, GoodC c := fun c hc => hg c (hds2 c hc).1
    have hpl := lawL_len (mk := []) (by decide) hdg2 (by omega)
    have hTp : (T (lawL [] ds)).length ≤ 300 := by rw [T_len]; omega
    clear F N
    repeat' walk1
    refine text_w (cs := ds) S hd hh F1 N1 hlD (by rw [hys, List.toList_toArray]; exact hds1.keeps keep) hdg2 (by omega) mk0 (by decide) ?_
    intro h2 tk2 t2 F2 N2
    clear F1 N1
    repeat' walk1
    rename_i Fa Na
    refine strip_w S hd hh Fa Na hb hTp ?_
    intro h3 tk3 g3 t3 hb3 F3 N3
    rw [stripV_no (plain_no34 hdg2 fun c hc => (hds2 c hc).2)]
    clear Fa Na
    repeat' walk1
    · exact (ne_self (by assumption)).elim
    rename_i Fb Nb
    refine split_w (vs := [.str (T (92 :: 92 :: (lawL [] (od D) ++ 34 :: lawL [] [d]))) t1]) (css := [bsC :: (od D ++ [markC, d])]) S PT (by omega) hh Fb Nb (News.isList Nb (.head _)) rfl (by simp) ?_ ?_
    · intro i v hv
      rcases i with _ | i
      · simp at hv; subst hv
        exact ⟨_, t1, _, rfl, rfl, reads_left hodg hol.2 hdg, by simp, by simp; omega⟩
      · simp at hv
    intro h5' tk5 r rits F5 N5 hlr hpr
    have hns : ∀ q ∈ n, q ∈ everything h₀ L h5' := fun q hq => Led.mem_all N5 q (.tail _ hq)
    have NA := News.all h₀ L h5'
    clear Fb Nb N5
    repeat' walk1
    rename_i F6 N6
    refine slice_list3 (s := ⟨_, _, _, _, _⟩) F6 N6 (st.ld.now F6 N6 fun q hq => .tail _ (.tail _ (hns q hq))) (.int _ _) .none (.int _ _) (by decide) (fun h7 F7 N7 => ?_) (by with_unfolding_all rfl) (by intro _; with_unfolding_all rfl) hdv
    repeat' walk1
    have hpo : (slicePick dvs.toArray (some 1) none (some 2)).toList.length ≤ 9 := by
      have h1 := (st.cd.pick (some 1) none (some 2)).length
      rw [pick_od ho] at h1
      omega
    refine add_lists (vs := [.ref _]) (ws := (slicePick dvs.toArray (some 1) none (some 2)).toList) F7 N7 (News.isList N7 (.tail _ (.head _))) (by rw [Array.toArray_toList]; exact News.isList N7 (.head _)) (fun h8 F8 N8 => ?_) (by rw [sizeLine_eq]; simp; simp at hpo; omega)
    obtain ⟨vl, hvl⟩ : ∃ vl, dvs[D.length - 1]? = some vl := ⟨dvs[D.length - 1]'(by omega), by simp⟩
    obtain ⟨d', hd', hcl⟩ := st.cd.get hvl
    obtain rfl : d = d' := by rw [hdD] at hd'; cases hd'; rfl
    repeat' walk1
    rename_i F9 N9
    refine tail_any (st.ld.now F9 N9 fun q hq => .tail _ (.tail _ (.tail _ (.tail _ (.tail _ (hns q hq)))))).typeIs slot_list_getitem.lookup (wpAny_getItem_list_neg (x := vl) (st.ld.now F9 N9 fun q hq => .tail _ (.tail _ (.tail _ (.tail _ (.tail _ (hns q hq)))))) (by decide) (by simp; omega) (by decide) (by
      rw [List.size_toArray, List.getElem?_toArray, hdl, show ((-1 : Int) + (D.length : Int)).toNat = D.length - 1 by omega]; exact hvl) ?_) (by with_unfolding_all rfl)
    repeat' walk1
    rename_i F10 N10
    refine add_lists (vs := [.ref _] ++ (slicePick dvs.toArray (some 1) none (some 2)).toList) (ws := [.ref _, vl]) F10 N10 (News.isList N10 (.tail _ (.tail _ (.head _)))) (News.isList N10 (.head _)) (fun h11 F11 N11 => ?_) (by rw [sizeLine_eq]; simp; simp at hpo; omega)
    repeat' walk1
    rename_i F12 N12
    have ebb : Str.ofString "\\\\" = T [92, 92] := by decide
    rw [ebb, mk34] at N12
    have ks := seq_keep F5 F12 N12 fun q hq => .tail _ (.tail _ (.tail _ (.tail _ (.tail _ (.tail _ (.tail _ (.tail _ hq)))))))
    refine eq_piles (IsList.move ks hlr) (PilesAt.move ks hpr) (News.isList N12 (.head _)) (.cons (News.isList N12 (.tail _ (.head _))) ?_ .nil) ?_ (by omega) ?_
    · rw [List.toList_toArray]
      refine CardsP.now (n := _) (n' := _) (h₀ := h₀) (CardsP.append (cs := bsC :: od D) (ds := [markC, d]) (CardsP.append (vs := [.ref _]) (cs := [bsC]) (.cons (t' := 0) (.inr (.tail _ (.tail _ (.tail _ (.tail _ (.tail _ (.tail _ (.tail _ (.head _)))))))) ) rfl rfl .nil) ?_) (CardsP.append (vs := [.ref _]) (ws := [vl]) (cs := [markC]) (ds := [d]) (.cons (t' := 0) (.inr (.tail _ (.tail _ (.tail _ (.head _))))) rfl rfl .nil) ?_)) F12 N12 fun _ hq => hq
      · rw [← pick_od ho]
        exact (st.cd.pick _ _ _).mono fun a o ho _ => ho.up fun q hq => .tail _ (.tail _ (.tail _ (.tail _ (.tail _ (.tail _ (.tail _ (.tail _ (hns q hq))))))))
      · exact hcl.mono fun a o ho _ => ho.up fun q hq => .tail _ (.tail _ (.tail _ (.tail _ (.tail _ (.tail _ (.tail _ (.tail _ (hns q hq))))))))
    · intro cs' hcs c hc
      rw [List.mem_singleton.mp hcs] at hc
      rcases List.mem_cons.mp hc with rfl | hc
      · exact ⟨by rw [strOk_T]; decide, fun v h => by cases h⟩
      · rcases List.mem_append.mp hc with hc | hc
        · exact good_str (hodg c hc)
        · rcases List.mem_cons.mp hc with rfl | hc
          · exact ⟨by show PyData.strOk (T [34]) = true; rw [strOk_T]; decide, fun v h => by cases h⟩
          · rw [List.mem_singleton.mp hc]; exact good_str hdg
    · exact h _ _ _ _ hb3 F12
end Mine

namespace Mine
set_option maxRecDepth 100000
local macro_rules | `(tactic| walk_at "eval Name") => `(tactic| first | (refine gnameX (by assumption) (by assumption) (by rfl) ?_) | (refine bnameX (by assumption) (by assumption) (by decide) (by first | exact bb_len | exact bb_sum | exact bb_range) ?_) | (refine nameX_L (by assumption) (by rfl) ?_) | (refine nameX_C (by assumption) (by rfl) (by repeat (first | assumption | apply List.mem_cons_of_mem)) (by assumption) ?_))
local macro_rules | `(tactic| walk_at "storeName") => `(tactic| first | (refine storeX_L (by assumption) (by assumption) ?_; intro _ _ _) | (refine storeC (by assumption) (by assumption) (by rfl) (by repeat (first | assumption | apply List.mem_cons_of_mem)) (by assumption) ?_; intro _ _ _ _ _))
local macro_rules | `(tactic| walk_at "callWith ref") => `(tactic| (refine callWith_st (by assumption) (by rfl) ?_))
local macro_rules | `(tactic| walk_at "call type:range") => `(tactic| refine Hold.intro ?_)
local macro_rules | `(tactic| walk_at "subscriptTail") => `(tactic| ((with_reducible show wpAny _ _ (subscriptTail _ _ (Value.ref _) _) _ _ _); refine Hold.intro ?_))
local macro_rules | `(tactic| walk_at "call builtin:sum") => `(tactic| refine Hold.intro ?_)
local macro_rules | `(tactic| walk_at "call builtin:len") => `(tactic| refine Hold.intro ?_)
local macro_rules | `(tactic| walk_at "call ref") => `(tactic| refine Hold.intro ?_)
local macro_rules | `(tactic| walk_at "binaryOp Pow int int") => `(tactic| refine Hold.intro ?_)
local macro_rules | `(tactic| walk_at "binaryOp Mod") => `(tactic| refine Hold.intro ?_)
local macro_rules | `(tactic| walk_at "binaryOp Add ref ref") => `(tactic| refine Hold.intro ?_)
set_option maxHeartbeats 4000000 in
theorem law_call {w : World} {A : Around} {s : Shared} {mg mb : Map} {la : Addr} {vs : List Value} {ns : List Int} {R : Result → Shared → Prop}
    (S : Stat mg mb s.heap) (PT : Pats s.heap) (hd : A.depth + 30 < recursionLimit) (hh : A.handled = none) (hu : A.units + 90 < cLine) (hl : s.heap.IsList la vs.toArray) (hi : IntsAre vs ns) (hn : ns.length ≤ 63) (hb : AllBare s.gens)
    (hR : ∀ h' tk g', (∀ b o, s.heap.get? b = some o → h'.get? b = some o) → AllBare g' → R (.ok (.ret (.bool true))) { s with heap := h', toks := tk, gens := g' }) :
    codeAny (model pw w) A (.call (.ref 127) ⟨[.ref la], []⟩) R s := by
  refine law_head S hd hh hl hi hn ?_
  intro h1 tk1 m1 n1 ca cvs cs tt F N st hdk hkn
  have hmc := many_cases ns
  generalize hmany : manyOf ns = many at *
  have hw : wishOf many ns < 16 := by
    unfold wishOf
    have hp : (2 : Nat) ^ turnsOf many ≤ 16 ∧ 0 < (2 : Nat) ^ turnsOf many := by unfold turnsOf; split <;> decide
    have h1 := Int.emod_lt_of_pos (ns.sum + 3) (by omega : (0 : Int) < ((2 ^ turnsOf many : Nat) : Int))
    have h2 := Int.emod_nonneg (ns.sum + 3) (by omega : ((2 ^ turnsOf many : Nat) : Int) ≠ 0)
    omega
  generalize wishOf many ns = wish at *
  generalize hL : s.heap.objs.size = L at *
  have hh' : (A.deeper (lawEnv L)).handled = none := hh
  have hd' : (A.deeper (lawEnv L)).depth + 20 < recursionLimit := by show A.depth + 1 + 20 < _; omega
  have hu' : (A.deeper (lawEnv L)).units + 80 < cLine := by show A.units + 3 + 80 < _; omega
  have ht4 : turnsOf many ≤ 4 := by unfold turnsOf; split <;> omega
  obtain ⟨bd, hbd⟩ : ∃ b, b = (bodyOf (stm 19)).drop 5 := ⟨_, rfl⟩
  show wpAny (model pw w) (A.deeper (lawEnv L)) (execs ((bodyOf (stm 19)).drop 5) (lawX L)) _ _ _
  rw [← hbd]
  conv at hbd => rhs; whnf
  subst hbd
  have F0 := F
  replace F := Fr.kn F hkn
  dsimp only [over] at F
  walk1
  refine for_range (h₀ := s.heap) (n := turnsOf many) (LT s.heap L ca cvs cs many wish) hh' F N (by omega) ?iter ?go ⟨hb, ca, cvs, tt, by rw [deck_zero hdk.1]; exact st, rfl, rfl, trivial⟩ ?turn ?done
  case go => intro I v s' E' Q' h; exact wpAny_pure h
  case iter =>
    repeat' walk1
    exact call_range_1 ⟨_, _, _, _, _, _, rfl, rfl, IsRange.new .., F.push _, fun p hp => ⟨Heap.get?_push_of_some _ (N p hp).1, (N p hp).2⟩⟩
  case turn =>
    intro I oI i t m2 n2 g h2 tk2 hi2 K F2 N2 hne hcI
    iterate 2 walk1
    rename_i F3 N3
    exact law_turn (tk := _) S PT hd' hh' hu' hi2 hmc hw hdk F3 N3 hne hcI K fun s₃ hs => hs
  case done =>
    rintro m2 n2 g h2 tk2 ⟨hb2, da, dvs, tt2, st2, hk2⟩ F2 N2
    have hg := deck_good (wish := wish) (t := turnsOf many) (by omega : 0 < many) (by omega) hdk
    have hDl := deck_len cs many wish (turnsOf many)
    generalize deckAt cs many wish (turnsOf many) = D at *
    have ho : OddLen D := by unfold OddLen; omega
    refine tail1 (s := ⟨h2, g, _, tk2, _⟩) S hd' hh' F2 N2 st2 hb2 hg ho ⟨hk2.2.1, trivial⟩ ?_
    intro h3 tk3 g3 m3 t3 hb3 F3 N3 hk3
    refine tail2 (s := ⟨h3, g3, _, tk3, _⟩) S PT hd' hh' hu' F3 N3 st2 hb3 hg ho hk3 ?_
    intro h4 tk4 g4 m4 hb4 F4
    exact hR h4 tk4 g4 F4.keep hb4
end Mine

namespace Mine
theorem stat_of {p : Program} {loose : List Str} {mean : ExcName → Option Value} {mg mb : Map} {h : Heap} {K : Frag} (T : Top p loose mean mg mb h) (X : K.In h)
    (hn : gtab.all (fun p => match nsIn K mainGlobals p.1 with | some (some (.ref a)) => (match p.2 with | .ref b => a == b | _ => false) | _ => false) = true)
    (hf : btab.all (fun x => match nsIn K mainGlobals x with | some none => true | _ => false) = true)
    (hd : ∀ p ∈ defsTab, Def h p.1 p.2.1 p.2.2) : Stat mg mb h where
  g := T.g
  b := T.b
  bi := T.builtins
  nolimit := T.nolimit
  digits := T.nodigits
  names := by
    intro q hq
    have := List.all_eq_true.mp hn q hq
    split at this
    · rename_i a e
      split at this
      · rename_i b e2
        rw [e2]
        exact mg_of X T.g (by rw [e, eq_of_beq this])
      · cases this
    · cases this
  free := by
    intro x hx
    have := List.all_eq_true.mp hf x hx
    split at this
    · rename_i e; exact mg_none_of X T.g e
    · cases this
  defs := hd
end Mine

open Mine
set_option maxRecDepth 100000 in
set_option maxHeartbeats 8000000 in
theorem PySem.Challenge.cw_rs0109_01_holds : PySem.Challenge.rw_rs0109_01.Holds := by
  w_on; o_law; k_head
  (case hw => w_witness2)
  intro w s₀ s₁ mg mb G Y fa o pm cd doc dV kV ho hd hcd hD hmg hg args vals as hpre hlay hrd hwl hlo
  have KX := Y.1
  refine Ground.open G ?_
  intro T B D TE TW
  clear hd hcd hD ho
  have n1 := mg_of (n := Str.ofString "law") (v := .ref 127) KX T.g (by kernel_rfl)
  have efa : fa = 127 := by
    have := Option.some.inj (hmg.symm.trans n1)
    injection this
  subst efa
  clear hmg n1
  have S : Stat mg mb s₁.heap := stat_of T KX (by kernel_rfl) (by kernel_rfl) (by
    intro q hq
    simp only [defsTab, List.mem_cons, List.not_mem_nil, or_false] at hq
    rcases hq with rfl | rfl | rfl | rfl | rfl | rfl | rfl | rfl | rfl
    · exact ⟨_, _, _, KX 38 _ rfl, rfl, codeRec_of KX (by kernel_rfl)⟩
    · exact ⟨_, _, _, KX 45 _ rfl, rfl, codeRec_of KX (by kernel_rfl)⟩
    · exact ⟨_, _, _, KX 57 _ rfl, rfl, codeRec_of KX (by kernel_rfl)⟩
    · exact ⟨_, _, _, KX 84 _ rfl, rfl, codeRec_of KX (by kernel_rfl)⟩
    · exact ⟨_, _, _, KX 101 _ rfl, rfl, codeRec_of KX (by kernel_rfl)⟩
    · exact ⟨_, _, _, KX 108 _ rfl, rfl, codeRec_of KX (by kernel_rfl)⟩
    · exact ⟨_, _, _, KX 115 _ rfl, rfl, codeRec_of KX (by kernel_rfl)⟩
    · exact ⟨_, _, _, KX 122 _ rfl, rfl, codeRec_of KX (by kernel_rfl)⟩
    · exact ⟨_, _, _, KX 127 _ rfl, rfl, codeRec_of KX (by kernel_rfl)⟩)
  have PT : Pats s₁.heap := by
    refine ⟨?_, ?_, ?_, ?_, ?_⟩
    · exact ⟨_, _, _, _, _, _, KX 62 _ rfl, rfl, rfl, rfl, by rfl, by rfl, by rfl, KX 61 _ rfl, rfl, by kernel_rfl⟩
    · exact ⟨_, _, _, _, _, _, KX 67 _ rfl, rfl, rfl, rfl, by rfl, by rfl, by rfl, KX 66 _ rfl, rfl, by kernel_rfl⟩
    · exact ⟨_, _, _, _, _, _, KX 72 _ rfl, rfl, rfl, rfl, by rfl, by rfl, by rfl, KX 71 _ rfl, rfl, by kernel_rfl⟩
    · exact ⟨_, _, _, _, _, _, KX 50 _ rfl, rfl, rfl, rfl, by rfl, by rfl, by rfl, KX 49 _ rfl, rfl, by kernel_rfl⟩
    · exact ⟨_, _, _, _, _, _, KX 89 _ rfl, rfl, rfl, rfl, by rfl, by rfl, by rfl, KX 88 _ rfl, rfl, by kernel_rfl⟩
  wrow_args hpre hlay hrd hwl hlo
  all_goals (
    refine enter_call ?_
    rename IntsAre _ _ => hI
    rename Heap.IsList _ _ _ => hLs
    refine law_call S PT (by decide) rfl (by decide) hLs hI (by omega) (.of_eq hg) ?_
    intro h' tk g' keep hb
    refine ⟨.inl ⟨_, _, [], rfl, ?_, .bool true, ?_, fun _ => ⟨.nil, fun _ h => nomatch h⟩⟩, OldK.of_keep keep, rfl, hb⟩)
  · intro cls; rfl
  · first | kernel_rfl | (with_unfolding_all rfl) | decide | (trace "S"; simp [OpenLaw.row, OpenRow.toRowW, RowW.claim, PySem.Challenge.rw_rs0109_01]; trace_state; done)
