import PyProof.Rows.All
import Wide.All
import OpenK.AllK
import Wide.FinOn
import PySem.Challenge.RW_rs0046_01
set_option Elab.async false
set_option compiler.extract_closed false
section
open PySem PySem.W PyProof.Rows
namespace Mine
set_option maxRecDepth 100000
set_option maxHeartbeats 8000000
theorem no_head {P : Prop} (H : Hook) (hw : True) (hc : P) : P := hc
section
local macro_rules | `(tactic| o_head $H) => `(tactic| refine no_head $H ?hw ?hc)
local macro_rules | `(tactic| w_witness2) => `(tactic| exact True.intro)
open_top hd for PySem.Challenge.rw_rs0046_01
end
end Mine
end
section
open PySem PySem.W PyProof.Rows
set_option compiler.extract_closed false
namespace Mine
/-! Lines of the walk, written short: a letter a side goal -/
section
open Lean
abbrev Tac := MacroM (TSyntax `tactic)
def words : List (Char × Name × String) := [('a', `PySem.W.tacticK_asm, "k_asm"), ('w', `PySem.W.tacticKtr_room, "ktr_room"), ('u', `PySem.W.tacticKtr_units, "ktr_units"), ('m', `PySem.W.tacticK_mem, "k_mem"), ('s', ``Parser.Tactic.assumption, "assumption"), ('i', `PySem.W.tacticK_is, "k_is"), ('j', `PySem.W.tacticKs_is, "ks_is"), ('K', `tacticKernel_rfl, "kernel_rfl"), ('g', `PySem.W.tacticK_get, "k_get"), ('p', `PySem.W.tacticK_put, "k_put"), ('U', `PySem.W.tacticK_upd, "k_upd"), ('r', ``Parser.Tactic.tacticRfl, "rfl"), ('b', `PySem.W.tacticK_room, "k_room"), ('>', `PySem.W.tacticK_here, "k_here")]
/-- the side goals: a letter of `words`, or a place in `sp` -/
def side (sp : List Tac) (c : Char) : Tac :=
  match words.lookup c with
  | some (k, s) => return ⟨.node .none k #[.atom .none s]⟩
  | none => (sp[c.toNat - 48]?).getD Macro.throwUnsupported
abbrev Goals := MacroM (Nat × Array Term × Array (TSyntax `tactic))
def goal (sp : List Tac) (r : Goals) (c : Char) : Goals := do
  let (i, hs, ts) ← r
  if c == '_' then return (i, hs.push (← `(?_)), ts)
  let k := mkIdent (← Macro.addMacroScope (.num `k i))
  return (i + 1, hs.push (← `(?$k:ident)), ts.push (← `(tactic| (case $k:ident => $(← side sp c):tactic))))
def intr (vs : List Name) : Tac := do
  let vs : Array Ident := (vs.map fun v => mkIdent v).toArray
  `(tactic| intro $vs*)
def no : Tac := `(tactic| skip)
/-- a lemma (with its leading arguments), its side goals one behind the other (or in the order of `ord`), `_` for what stays -/
def fill (c : Name) (sides : String) (as : Array Ident) (sp : List Tac) (ord : List Nat := []) : Tac := do
  let (_, hs, ts) ← sides.toList.foldl (goal sp) (return (0, #[], #[]))
  let ts := if ord.isEmpty then ts else (ord.map fun i => ts[i]!).toArray
  `(tactic| (refine' $(mkIdent c):ident $as* $hs*; $[$ts:tactic];*))
/-- one line of the walk: something ahead, the lemma, the names behind it, a tail -/
def line (c : Name) (sides : String) (vs : List Name := []) (as : Array Ident := #[]) (sp : List Tac := []) (tl : Tac := no) (pre : Tac := no) : Tac := do
  let vs ← vs.mapM fun v => Macro.addMacroScope v
  `(tactic| ($(← side [] '>'):tactic; $(← pre):tactic; k_dflt $(← fill c sides as sp):tactic; $(← if vs.isEmpty then no else intr vs):tactic; $(← tl):tactic))
def hold : Tac := do `(tactic| ($(← side [] '>'):tactic; refine $(mkIdent `Mine.of_hold) ?_))
def dcd : Tac := `(tactic| decide)
def wua : Tac := `(tactic| with_unfolding_all rfl)
def oneOf (ts : List Tac) : Tac := do
  let ts ← ts.toArray.mapM id
  `(tactic| first $[| $ts:tactic]*)
/-- `a ≠ b` out of a row of facts, the `n`-th of them or what is behind it, as it stands or turned round -/
def pick (n : Nat) : Tac := do
  let p ← `(by with_reducible assumption)
  let (_, ts) ← (List.replicate n ()).foldl (fun (r : MacroM (Term × List Tac)) _ => do
    let (p, ts) ← r
    let l ← `(And.left $p)
    return (← `(And.right $p), ts ++ [`(tactic| exact $p), `(tactic| exact $l), `(tactic| exact Ne.symm $p), `(tactic| exact Ne.symm $l)])) (return (p, []))
  oneOf ts
end
end Mine
end
section
open PySem PySem.W PyProof.Rows
open PySem.Spec PySem.Calls
set_option maxRecDepth 100000
namespace Mine
section
variable {prog : Program} {w : World} {A : Around} {E : Value → Shared → Prop} {s : Shared} {env : Env} {h₀ : Heap} {x : Str} {body : List Stmt} {Q : Flow → Shared → Prop}

/-- the end of a turn that leaves the ledger and all names but x as they were -/
def SameEnd (h₀ : Heap) (L : Addr) (x : Str) (m₀ : Str → Option Value) (need : List (Addr × Obj)) (P : Prop) (s₁ s₂ : Shared) : Prop :=
  ∃ h' tk m' news', s₂ = { s₁ with heap := h', toks := tk } ∧ Fr h₀ L h' m' ∧ News h₀ L h' news' ∧ (∀ p ∈ need, p ∈ news') ∧ (∀ z, z ≠ x → m' z = m₀ z) ∧ P
theorem SameEnd.intro {L : Addr} {m₀ m' : Str → Option Value} {need news' : List (Addr × Obj)} {P : Prop} {s₁ : Shared} {h' : Heap} {tk : Nat} (F : Fr h₀ L h' m') (N : News h₀ L h' news') (hn : ∀ p ∈ need, p ∈ news') (hm : ∀ z, z ≠ x → m' z = m₀ z) (hp : P) :
    SameEnd h₀ L x m₀ need P s₁ { s₁ with heap := h', toks := tk } := ⟨h', tk, m', news', rfl, F, N, hn, hm, hp⟩
def SamePost (h₀ : Heap) (L : Addr) (x : Str) (m₀ : Str → Option Value) (need : List (Addr × Obj)) (P : Prop) (s₁ : Shared) (Q : Flow → Shared → Prop) (f : Flow) (s₂ : Shared) : Prop :=
  match f with
  | .ret v => Q (.ret v) s₂
  | .brk => Q .next s₂
  | _ => SameEnd h₀ L x m₀ need P s₁ s₂

theorem loop_list_same {l : Addr} {vs : List Value} {nn : Nat} {m₀ : Str → Option Value} {news : List (Addr × Obj)} (P : Nat → Prop)
    (hh : A.handled = none) (hl : (l, listOf vs.toArray nn) ∈ news) (F : Fr h₀ env.locals s.heap m₀) (N : News h₀ env.locals s.heap news) (hp : P 0)
    (turn : ∀ i v h tk own, vs[i]? = some v → P i → Fr h₀ env.locals h (fun y => if y = x then some v else m₀ y) → News h₀ env.locals h (news ++ own) →
      wpAny (model prog w) A (execs body env) (SamePost h₀ env.locals x m₀ (news ++ own) (P (i + 1)) { s with heap := h, toks := tk } Q) E { s with heap := h, toks := tk })
    (done : ∀ (u : Str → Option Value) h tk, P vs.length → Fr h₀ env.locals h (fun y => if y = x then u y else m₀ y) → News h₀ env.locals h news → Q .next { s with heap := h, toks := tk }) :
    wpAny (model prog w) A (pyIter (.ref l)) (fun it s₂ => LoopAtV prog w A h₀ env x body Q E it s₂) E s := by
  refine kdl_iter (news := news) (fun i m nx => nx = news ∧ (∀ z, z ≠ x → m z = m₀ z) ∧ P i) hh hl F N ⟨rfl, fun _ _ => rfl, hp⟩ ?_ ?_
  · rintro i v m₁ nx h tk own hv hoff _ ⟨rfl, hm, hp'⟩ F₁ N₁
    have e : (fun y => if y = x then some v else m₁ y) = fun y => if y = x then some v else m₀ y := by
      funext y
      by_cases h1 : y = x
      · simp [h1]
      · simp only [if_neg h1]; exact hm y h1
    rw [e] at F₁
    refine wpAny_mono (turn i v h tk own hv hp' F₁ N₁) (fun f s₂ p => ?_) fun _ _ e => e
    have fin : SameEnd h₀ env.locals x m₀ (nx ++ own) (P (i + 1)) { s with heap := h, toks := tk } s₂ → InvEndG h₀ env.locals (fun m' nx' => (l, listOf vs.toArray nn) ∈ nx' ∧ (nx' = nx ∧ (∀ z, z ≠ x → m' z = m₀ z) ∧ P (i + 1))) own { s with heap := h, toks := tk } s₂ := by
      rintro ⟨h', tk', m', news', e, F', N', hn, hm', hp''⟩
      exact ⟨h', tk', m', news', nx, e, F', N', fun p hp => hn p (List.mem_append.mpr (.inl hp)), fun p hp => hn p (List.mem_append.mpr (.inr hp)), hoff, hl, rfl, hm', hp''⟩
    cases f with
    | ret v => exact p
    | brk => exact p
    | next => exact fin p
    | cont => exact fin p
  · rintro m₁ nx h tk ⟨rfl, hm, hp'⟩ F₁ N₁
    refine done m₁ h tk hp' ?_ N₁
    have e : (fun y => if y = x then m₁ y else m₀ y) = m₁ := by
      funext y
      by_cases h1 : y = x
      · simp [h1]
      · simp only [if_neg h1]; exact (hm y h1).symm
    rw [e]; exact F₁
end
end Mine
end
section
open PySem PySem.W PyProof.Rows
open PySem.Spec PySem.Calls
set_option maxRecDepth 100000
namespace Mine
/-- an _Accumulator: an object of class 143 with a dict and items -/
abbrev accObj (d : Addr) (vs : List Value) (k : Nat) : Obj := { cls := .ref 143, dict := some d, data := .seq vs.toArray k }
theorem inst_acc {h₀ h : Heap} {L x dx : Addr} {news : List (Addr × Obj)} {od : Obj} {vs : List Value} {k : Nat} (N : News h₀ L h news) (h1 : (x, accObj dx vs k) ∈ news) (h2 : (dx, od) ∈ news) :
    InstAt h x (accObj dx vs k) 143 (some od) := ⟨(N _ h1).1, rfl, rfl, (N _ h2).1⟩

section
variable {prog : Program} {w : World} {A : Around} {E : Value → Shared → Prop} {s : Shared} {K : Frag} {x C dx L : Addr} {h₀ : Heap} {m : Str → Option Value} {news : List (Addr × Obj)} {ox : Obj} {od : Option Obj} {es : List DictEntry} {n : Nat} {name : Str}
theorem method_bi {pl : Sem Bool} {Q : Value × List Value → Shared → Prop} {f : String} (F : Fr h₀ L s.heap m) (X₀ : K.In h₀) (I : InstAt s.heap x ox C (some (dictOf es n))) (hg : plainGet K C name = true)
    (hf : findIn K (.ref C) name = some (some (.builtin f))) (ht : typeIn K (.builtin f) = some (.type "method_descriptor")) (hl : getL name es = some none) (h : Q (.builtin f, [.ref x]) s) : wpAny (model prog w) A (getMethod (.ref x) name pl) Q E s := by
  have X := X₀.keeps F.keep
  have hcan := PySem.F.canon_object_ga
  obtain ⟨hga, hk⟩ := plainGet_of hg
  unfold getMethod specialOf
  refine wpAny_bind (wpAny_bind (I.type.here ((looks_findIn X hga).here ?_)))
  dsimp only
  rw [hcan, if_neg (by decide)]
  refine wpAny_bind (wpAny_bind (I.type.here ((looks_findIn X hk).here ?_)))
  refine wpAny_bind (wpAny_bind (I.type.here ((looks_findIn X hf).here (wpAny_bind ((looks_typeIn X ht).here ?_)))))
  rw [if_neg (by decide +kernel)]
  refine wpAny_bind (wpAny_loadPart I.at_ ?_)
  have hd := I.dict
  cases e : ox.dict with
  | none => exact wpAny_bind (wpAny_rule (wpAny_pure h))
  | some dx =>
    rw [e] at hd
    refine wpAny_bind (wpAny_bind (wpAny_loadPart hd ?_))
    have a : lookIn name (dictOf es n) = some none := by rw [lookIn_dict, hl]
    rw [nsLook_of a]
    refine wpAny_pure ?_
    exact wpAny_bind (wpAny_rule (wpAny_pure h))
end

section
variable {prog : Program} {w : World} {A : Around} {E : Value → Shared → Prop} {s : Shared} {K : Frag} {x d L : Addr} {h₀ : Heap} {m : Str → Option Value} {news : List (Addr × Obj)} {vs : List Value} {k : Nat}
theorem check_meth {M : Model} {A : Around} {E : Value → Shared → Prop} {s : Shared} {i owner n : String} {self : Value} {rest : List Value} {kw : List (Str × Value)} {Q : Unit → Shared → Prop}
    (hk : builtinKind i = some .method) (hs : splitId i = some (owner, n)) (hi : Looks M s.heap (isInstance self (.type owner)) true) (ha : argsOk i ⟨self :: rest, kw⟩) (q : Q () s) :
    wpAny M A (checkBuiltinCall i ⟨self :: rest, kw⟩) Q E s := by
  simp only [checkBuiltinCall, hk, hs]
  refine wpAny_bind (hi.here ?_)
  simp only [Bool.not_true, Bool.false_eq_true, if_false]
  cases hsig : Manifest.signature? i with
  | none => exact wpAny_pure q
  | some sig =>
    simp only [argsOk, hsig] at ha
    have h2 : Bind.checkArgs i sig ⟨self :: rest, kw⟩ = pure () := ha
    show wpAny M A (Bind.checkArgs i sig ⟨self :: rest, kw⟩) Q E s
    rw [h2]; exact wpAny_pure q
theorem acc_type {M : Model} {h : Heap} (hx : h.get? x = some (accObj d vs k)) : Looks M h (typeOf (.ref x)) (.ref 143) := (Looks.ld hx).andThen .now
theorem acc_isList {M : Model} {h : Heap} (X : K.In h) (hx : h.get? x = some (accObj d vs k)) (hm : mroIn K 143 (.type "list") = some true) : Looks M h (isInstance (.ref x) (.type "list")) true :=
  (acc_type hx).andThen (looks_mroIn X hm)
theorem acc_call {id n : String} {b : Builtin} {rest : List Value} {Q : Value → Shared → Prop} (X : K.In s.heap) (hx : s.heap.get? x = some (accObj d vs k)) (hm : mroIn K 143 (.type "list") = some true)
    (hq : plainId id = true) (hb : entryFor table id = some b) (hk : builtinKind id = some .slot ∨ builtinKind id = some .method) (hs : splitId id = some ("list", n)) (ha : argsOk id ⟨.ref x :: rest, []⟩)
    (h : wpAny (model prog w) A.in1 (b ⟨.ref x :: rest, []⟩) (fun fin s' => ∃ v, fin = .done (.ret v) ∧ Q v s') E s) : wpAny (model prog w) A (call (.builtin id) (.ref x :: rest)) Q E s := by
  refine wpAny_call (codeAny_call_builtin hq hb ?_)
  have hi := acc_isList (M := model prog w) X hx hm
  have hgo : wpAny (model prog w) A.in1 (b ⟨.ref x :: rest, []⟩)
      (fun fin s' => match fin with | .done f => (match (Except.ok f : Result) with | .ok (.ret v) => Q v s' | .ok _ => False | .error e => E e s') | .again c' => c'.quiet = true ∧ codeAny (model prog w) A c' (fun r s' => match r with | .ok (.ret v) => Q v s' | .ok _ => False | .error e => E e s') s') (fun e s' => E e s') s := by
    refine wpAny_mono h (fun fin s' z => ?_) fun _ _ z => z
    obtain ⟨v, rfl, z⟩ := z
    exact z
  rcases hk with hk | hk
  · exact check_slot hk hs hi ha hgo
  · exact check_meth hk hs hi ha hgo

theorem acc_append {v : Value} {Q : Value → Shared → Prop} (X : K.In s.heap) (hx : s.heap.get? x = some (accObj d vs k)) (hm : mroIn K 143 (.type "list") = some true) (hsz : vs.length ≤ sizeLine)
    (h : ∀ h', Heap.SameBut x s.heap h' → h'.get? x = some (accObj d (vs ++ [v]) (k + 1)) → Q .none { s with heap := h' }) : wpAny (model prog w) A (call (.builtin "list.append") [.ref x, v]) Q E s := by
  refine acc_call (n := "append") X hx hm slot_list_append.plain entry_list_append (by first | exact .inl (by decide +kernel) | exact .inr (by decide +kernel)) (by decide +kernel) (args_list_append _ _) ?_
  show wpAny _ _ (updateSeq x (·.push v) >>= fun _ => ret .none) _ _ s
  refine wpAny_bind ?_
  have e : Obj.mapSeq (·.push v) (accObj d vs k) = accObj d (vs ++ [v]) (k + 1) := by
    simp [Obj.mapSeq, accObj]
  refine wpAny_updateSeq hx rfl (wpAny_pure ⟨.none, rfl, h _ (Heap.SameBut.update ..) ?_⟩) (by simpa using hsz)
  rw [Heap.get?_update_self _ hx (by rw [e]; rfl), e]

theorem acc_len_body {Q : Value → Shared → Prop} (hx : s.heap.get? x = some (accObj d vs k))
    (h : Q (.int vs.length s.toks) { s with toks := s.toks + 1 }) : wpAny (model prog w) A (Builtin.«list.__len__» ⟨[.ref x], []⟩) (fun fin s' => ∃ v, fin = .done (.ret v) ∧ Q v s') E s := by
  show wpAny _ _ ((loadPart x (some keysPart) >>= fun o => match o.data with | .seq xs .. => pure xs.size | _ => unsupported "internal:not-a-sequence") >>= fun n => retInt n) _ _ s
  refine wpAny_bind (wpAny_bind (wpAny_loadPart hx (wpAny_pure ?_)))
  refine wpAny_bind (wpAny_mkInt (wpAny_pure ⟨_, rfl, ?_⟩))
  simpa using h

theorem acc_pop_body {y : Value} {Q : Value → Shared → Prop} (hx : s.heap.get? x = some (accObj d (vs ++ [y]) k)) (hsz : vs.length < 1000)
    (h : ∀ h', Heap.SameBut x s.heap h' → h'.get? x = some (accObj d vs (k + 1)) → Q y { s with heap := h' }) : wpAny (model prog w) A (Builtin.«list.pop» ⟨[.ref x], []⟩) (fun fin s' => ∃ v, fin = .done (.ret v) ∧ Q v s') E s := by
  obtain ⟨hp, g, dd, tk, os⟩ := s
  dsimp only at hx h
  have hss : (vs ++ [y]).toArray.size = vs.length + 1 := by simp
  have hk : seqIndex? (-1) (vs ++ [y]).toArray.size = some vs.length := by
    rw [seqIndex_neg (by omega) (by omega)]; congr 1; omega
  have hne : ¬ (vs ++ [y]).toArray.isEmpty = true := by simp
  have hget : (vs ++ [y]).toArray[vs.length]? = some y := by simp
  have e : Obj.mapSeq (fun xs => xs.eraseIdxIfInBounds vs.length) (accObj d (vs ++ [y]) k) = accObj d vs (k + 1) := by
    simp [Obj.mapSeq, accObj, Array.eraseIdxIfInBounds, List.eraseIdx_append_of_length_le]
  have fin := h _ (Heap.SameBut.update hp x (Obj.mapSeq fun xs => xs.eraseIdxIfInBounds vs.length)) (by rw [Heap.get?_update_self _ hx (by rw [e]; rfl), e])
  unfold Builtin.«list.pop»
  wp_walk using wpAny_loadPart' hx
  simp only [hk, hget, Option.bind_some, Option.map_some]
  exact wpAny_bind (wpAny_updateSeq hx rfl (wpAny_pure ⟨y, rfl, fin⟩) (by rw [hss, sizeLine_eq]; omega) (by
    have : ((vs ++ [y]).toArray.eraseIdxIfInBounds vs.length).size = vs.length := by simp [Array.eraseIdxIfInBounds, List.length_eraseIdx]
    rw [this, sizeLine_eq]; omega))

theorem acc_init_body {Q : Value → Shared → Prop} (hx : s.heap.get? x = some (accObj d [] k))
    (h : ∀ h', Heap.SameBut x s.heap h' → h'.get? x = some (accObj d [] k) → Q .none { s with heap := h' }) : wpAny (model prog w) A (Builtin.«list.__init__» ⟨[.ref x], []⟩) (fun fin s' => ∃ v, fin = .done (.ret v) ∧ Q v s') E s := by
  obtain ⟨hp, g, dd, tk, os⟩ := s
  dsimp only at hx h
  have e : Obj.mapSeq (fun _ => #[]) (accObj d [] k) = accObj d [] k := by
    simp [Obj.mapSeq, accObj]
  have fin := h _ (Heap.SameBut.update hp x (Obj.mapSeq fun _ => #[])) (by rw [Heap.get?_update_self _ hx (by rw [e]; rfl), e])
  unfold Builtin.«list.__init__»
  wp_walk using wpAny_loadPart' hx
  exact ⟨_, rfl, fin⟩
end

section
variable {prog : Program} {w : World} {A : Around} {K : Frag} {R : Result → Shared → Prop} {h : Heap} {g : Array GenState} {d : Drawn} {t : Nat} {os : OsState}
/-- what the written part says of the class that makes accumulators -/
def makesAcc (K : Frag) : Bool := match K.lookup 143 with
  | some ⟨_, _, .cls cd, sl⟩ => !cd.abstract && !cd.hasDel && (sl.toList[4]?).join == some (.builtin "list.__new__") && !cd.mro.isEmpty && cd.mro.contains (.ref 143) && cd.mro.contains (.type "list") &&
      specialIn K (.ref 143) "__call__" == some (some (.builtin "type.__call__")) && instIn K (.ref 143) (.type "type") == some true
  | _ => false
structure MakesA (M : Model) (h : Heap) : Prop where
  obj : ∃ oc od cd sl, h.get? 143 = some ⟨oc, od, .cls cd, sl⟩ ∧ cd.abstract = false ∧ cd.hasDel = false ∧ cd.mro.isEmpty = false
  made : Looks M h (Bind.madeBy (.ref 143)) (some "list.__new__")
  base : Looks M h (Bind.staticBase (.ref 143)) (.ref 143)
  self : Looks M h (isSubtype (.ref 143) (.ref 143)) true
  lst : Looks M h (isSubtype (.ref 143) (.type "list")) true
  call : Looks M h (specialOf (.ref 143) "__call__") (some (.builtin "type.__call__"))
  typ : Looks M h (isInstance (.ref 143) (.type "type")) true
theorem makesA_of {K : Frag} {M : Model} {h : Heap} (X : K.In h) (e : makesAcc K = true) : MakesA M h := by
  unfold makesAcc at e
  split at e
  · rename_i oc od cd sl ho
    simp only [Bool.and_eq_true, Bool.not_eq_true', beq_iff_eq] at e
    obtain ⟨⟨⟨⟨⟨⟨⟨e1, e2⟩, e3⟩, e4⟩, e5⟩, e6⟩, e7⟩, e8⟩ := e
    have hc : clsIn K 143 = some cd := by unfold clsIn; rw [ho]
    have hm : Looks M h (mroOf (.ref 143)) cd.mro := (looks_clsIn X hc).andThen .now
    obtain ⟨c, l, hl⟩ : ∃ c l, cd.mro = c :: l := by cases q : cd.mro with | nil => rw [q] at e4; cases e4 | cons c l => exact ⟨c, l, rfl⟩
    have made : Looks M h (Bind.madeBy (.ref 143)) (some "list.__new__") := by
      intro A Q E s k q
      unfold Bind.madeBy
      refine wpAny_bind (hm A _ E s k ?_)
      rw [hl, List.forIn_cons]
      refine wpAny_bind (wpAny_bind (wpAny_bind (wpAny_bind (wpAny_loadPart (k _ _ (X _ _ ho)) (wpAny_pure ?_)))))
      dsimp only
      rw [← Array.getElem?_toList, e3]
      exact wpAny_pure (wpAny_pure (wpAny_pure q))
    refine ⟨⟨oc, od, cd, sl, X _ _ ho, e1, e2, e4⟩, made, ?_, looks_mroIn X ?_, looks_mroIn X ?_, looks_specialIn X e7, looks_instIn X e8⟩
    · intro A Q E s k q
      unfold Bind.staticBase
      refine wpAny_bind (hm A _ E s k ?_)
      rw [hl, List.forIn_cons]
      exact wpAny_bind (wpAny_bind (wpAny_bind (made A _ E s k (wpAny_pure (wpAny_pure (wpAny_pure q))))))
    · unfold mroIn; rw [hc, Option.bind_some, if_neg (by rw [e4]; decide), e5]
    · unfold mroIn; rw [hc, Option.bind_some, if_neg (by rw [e4]; decide), e6]
  · cases e


theorem listNew_sig : Manifest.signature? "list.__new__" = some ⟨.any, "list", "list", .cls, [⟨"args", .varPos, false⟩, ⟨"kwargs", .varKw, false⟩]⟩ := by kernel_rfl
theorem listNew_args0 : Bind.checkArgs "list.__new__" ⟨.any, "list", "list", .cls, [⟨"args", .varPos, false⟩, ⟨"kwargs", .varKw, false⟩]⟩ ⟨[.ref 143], []⟩ = pure () := by kernel_rfl
theorem listNew_args1 (v : Value) : Bind.checkArgs "list.__new__" ⟨.any, "list", "list", .cls, [⟨"args", .varPos, false⟩, ⟨"kwargs", .varKw, false⟩]⟩ ⟨[.ref 143, v], []⟩ = pure () := by kernel_rfl
theorem new_acc {rest : List Value} (Y : MakesA (model prog w) h)
    (ha : Bind.checkArgs "list.__new__" ⟨.any, "list", "list", .cls, [⟨"args", .varPos, false⟩, ⟨"kwargs", .varKw, false⟩]⟩ ⟨.ref 143 :: rest, []⟩ = pure ())
    (hq : R (.ok (.ret (.ref (h.objs.size + 1)))) ⟨(h.push emptyDict).push (accObj h.objs.size [] 0), g, d, t, os⟩) :
    codeAny (model prog w) A (.call (.builtin "list.__new__") ⟨.ref 143 :: rest, []⟩) R ⟨h, g, d, t, os⟩ := by
  obtain ⟨⟨oc, od, cd, sl, hC, e1, e2, e4⟩, made, base, self, lst, call, typ⟩ := Y
  refine codeAny_call_builtin_code (plainId_quiet F.plain_list_new _) ?_
  have hkd : builtinKind "list.__new__" = some .builtinFn := by decide +kernel
  have hsp : splitId "list.__new__" = some ("list", "__new__") := by decide +kernel
  have hcan : (Manifest.canonical "list.__new__" != Manifest.canonical "list.__new__") = false := by simp
  have hty : Looks (model prog w) h (isType (.ref 143)) true := by
    first | exact typ | (unfold isType; exact (Looks.ld hC).andThen .now)
  simp only [checkBuiltinCall, hkd, hsp, listNew_sig, ha]
  repeat (first | simp only [bne_self_eq_false, Bool.false_eq_true, if_false, Bool.not_true, beq_self_eq_true, if_true] | lk)
  refine codeAny_builtin_stack F.entry_list_new rfl fun p st => ?_
  have hown := owner_list_new
  simp only [hown]
  refine wpAny_bind (hty.at ?_)
  simp only [Bool.not_true, Bool.false_eq_true, if_false]
  refine wpAny_bind (lst.at ?_)
  simp only [Bool.not_true, Bool.false_eq_true, if_false]
  refine wpAny_bind (wpAny_pure ?_)
  show wpAny _ _ (newDict >>= _) _ _ _
  refine wpAny_bind (wpAny_newObj_type ?_)
  show wpAny _ _ (newObj (.ref 143) (.seq #[]) (some h.objs.size) >>= _) _ _ _
  refine wpAny_bind ?_
  show wpAny _ _ (newObjAsIs _ _ _) _ _ _
  unfold newObjAsIs classHasDel
  refine wpAny_bind (wpAny_alloc (wpAny_bind (wpAny_bind (wpAny_load (Heap.get?_push_of_some _ (Heap.get?_push_of_some _ hC)) (wpAny_pure ?_)))))
  rw [e2]
  refine wpAny_pure (wpAny_pure ?_)
  show R _ _
  rw [Heap.size_push]
  exact hq

theorem make_accCore {rest : List Value} {init : Value} (Y : MakesA (model prog w) h) (hi : Looks (model prog w) h (typeLookup (.ref 143) "__init__") (some init))
    (hb : ∀ self, Looks (model prog w) h (bindSpecial init self) (init, [self]))
    (ha : Bind.checkArgs "list.__new__" ⟨.any, "list", "list", .cls, [⟨"args", .varPos, false⟩, ⟨"kwargs", .varKw, false⟩]⟩ ⟨.ref 143 :: rest, []⟩ = pure ())
    (hq : codeAny (model prog w) (A.under (.builtin "type.__call__" ⟨.ref 143 :: rest, []⟩)) (.call init ⟨.ref (h.objs.size + 1) :: rest, []⟩) (InitBack (h.objs.size + 1) R) ⟨(h.push emptyDict).push (accObj h.objs.size [] 0), g, d, t, os⟩) :
    codeAny (model prog w) A (.call (.ref 143) ⟨rest, []⟩) R ⟨h, g, d, t, os⟩ := by
  have Y' := Y
  obtain ⟨⟨oc, od, cd, sl, hC, e1, e2, e4⟩, made, base, self, lst, call, typ⟩ := Y
  refine codeAny_of_tree ?_
  show wpAny _ _ (callAny (.ref 143) _) _ _ _
  refine nd_load hC ?_
  show wpAny _ _ (callAny.viaDunder (.ref 143) _) _ _ _
  unfold callAny.viaDunder
  refine wpAny_bind (call.at ?_)
  dsimp only
  rw [tc_bind]
  refine wpAny_bind (wpAny_pure (wpAny_bind (wpAny_pure ?_)))
  refine wpAny_pure (a := Fin.again (.call (.builtin "type.__call__") ⟨.ref 143 :: rest, []⟩)) (And.intro rfl ?_)
  refine codeAny_call_builtin_at (Code.quiet_builtin _ (by decide +kernel)) entry_typeCall (check_slot tc_kind tc_split typ (tc_args _ _ _) ?_)
  unfold Builtin.«type.__call__»
  have hm : Looks (model prog w) h (mroOf (.ref 143)) cd.mro := ((Looks.ld (part := none) hC).andThen .now).andThen .now
  repeat (first | simp only [e4, Bool.false_eq_true, if_false] | with_reducible refine wpAny_call ?_ | lk)
  refine new_acc Y' ha ?_
  have k : ∀ b o, h.get? b = some o → ((h.push emptyDict).push (accObj h.objs.size [] 0)).get? b = some o := fun b o e => Heap.get?_push_of_some _ (Heap.get?_push_of_some _ e)
  have hx : ((h.push emptyDict).push (accObj h.objs.size [] 0)).get? (h.objs.size + 1) = some (accObj h.objs.size [] 0) := by heap_get
  have t1 : Looks (model prog w) ((h.push emptyDict).push (accObj h.objs.size [] 0)) (typeOf (.ref (h.objs.size + 1))) (.ref 143) := (Looks.ld hx).andThen .now
  have s1 := self.keeps k
  have i1 := hi.keeps k
  have b1 := (hb (.ref (h.objs.size + 1))).keeps k
  unfold isInstance callSpecial? specialOf
  repeat (first | with_reducible refine wpAny_call ?_ | lk)
  refine codeAny_mono hq fun r s' z => ?_
  rcases r with e | (v | _ | _ | _) <;> first | exact z | exact z.elim | skip
  obtain ⟨rfl, z⟩ := z
  exact wpAny_pure (wpAny_pure z)
end

section
variable {prog : Program} {w : World} {A : Around} {K : Frag} {x : Addr} {s : Shared} {h₀ : Heap} {L : Addr} {m : Str → Option Value} {news : List (Addr × Obj)} {E Q : Value → Shared → Prop}
theorem call_acc {rest : List Value} {fI : Addr} (F : Fr h₀ L s.heap m) (X₀ : K.In h₀) (N : News h₀ L s.heap news) (hm : makesAcc K = true)
    (hi : findIn K (.ref 143) "__init__" = some (some (.ref fI))) (hf : isFn K (.ref fI) = true)
    (ha : Bind.checkArgs "list.__new__" ⟨.any, "list", "list", .cls, [⟨"args", .varPos, false⟩, ⟨"kwargs", .varKw, false⟩]⟩ ⟨.ref 143 :: rest, []⟩ = pure ())
    (h : ∀ x dx h', Fr h₀ L h' m → News h₀ L h' ((x, accObj dx [] 0) :: (dx, dictOf [] 0) :: news) → (∀ p ∈ news, p.1 < dx) → dx < x →
      codeAny (model prog w) (A.under (.builtin "type.__call__" ⟨.ref 143 :: rest, []⟩)) (.call (.ref fI) ⟨.ref x :: rest, []⟩) (InitBack x fun r s' => match r with | .ok (.ret v) => Q v s' | .ok _ => False | .error e => E e s') { s with heap := h' }) :
    wpAny (model prog w) A (call (.ref 143) rest []) Q E s := by
  have X := X₀.keeps F.keep
  refine wpAny_call ?_
  obtain ⟨hh, g, d, t, os⟩ := s
  refine make_accCore (makesA_of X hm) (looks_findIn X hi) (fun self => bind_fn X self (beq_iff_eq.mp hf)) ha (h _ hh.objs.size _ ((F.push _).push _) ?_ (fun p hp => Heap.lt_size (N p hp).1) (Nat.lt_succ_self _))
  have := (N.push F emptyDict).push (F.push _) (accObj hh.objs.size [] 0)
  rwa [Heap.size_push] at this
end
end Mine
end
section
open PySem PySem.W PyProof.Rows
open PySem.Spec PySem.Calls
set_option maxRecDepth 100000
namespace Mine
theorem wd_get_init (x : Addr) : ∃ r : Sem Unit, Builtin.«wrapper_descriptor.__get__» ⟨[.builtin "list.__init__", .ref x, .ref 143], []⟩ = ((isInstance (.ref x) (.type "list") >>= fun b => if (!b) = true then r else pure ()) >>= fun _ => newFields "method-wrapper" [.builtin "list.__init__", .ref x] >>= fun v => ret v) := ⟨_, by with_unfolding_all rfl⟩
theorem wd_get_len (x : Addr) : ∃ r : Sem Unit, Builtin.«wrapper_descriptor.__get__» ⟨[.builtin "list.__len__", .ref x, .ref 143], []⟩ = ((isInstance (.ref x) (.type "list") >>= fun b => if (!b) = true then r else pure ()) >>= fun _ => newFields "method-wrapper" [.builtin "list.__len__", .ref x] >>= fun v => ret v) := ⟨_, by with_unfolding_all rfl⟩
theorem md_get_pop (x : Addr) : ∃ r : Sem Unit, Builtin.«method_descriptor.__get__» ⟨[.builtin "list.pop", .ref x, .ref 143], []⟩ = ((isInstance (.ref x) (.type "list") >>= fun b => if (!b) = true then r else pure ()) >>= fun _ => newFields "builtin_function_or_method" [.builtin "list.pop", .ref x] >>= fun v => ret v) := ⟨_, by with_unfolding_all rfl⟩
theorem slot_wdget : Slot "wrapper_descriptor" "__get__" "wrapper_descriptor.__get__" := .of (owner := "wrapper_descriptor") (n := "__get__") (by rw [typeLookup_type, builtinLookup_eq_fast]; kernel_rfl) (by decide +kernel) (by decide +kernel) (by decide +kernel)
  (by first | exact .inl (by decide +kernel) | exact .inr (by decide +kernel)) (by rw [isSubtype_type]; kernel_rfl)
theorem entry_wdget : entryFor table "wrapper_descriptor.__get__" = some Builtin.«wrapper_descriptor.__get__» := entryFor_of_tree (by kernel_rfl)
theorem args_wdget (a b c : Value) : argsOk "wrapper_descriptor.__get__" ⟨[a, b, c], []⟩ := by unfold argsOk; kernel_rfl
theorem slot_mdget : Slot "method_descriptor" "__get__" "method_descriptor.__get__" := .of (owner := "method_descriptor") (n := "__get__") (by rw [typeLookup_type, builtinLookup_eq_fast]; kernel_rfl) (by decide +kernel) (by decide +kernel) (by decide +kernel)
  (by first | exact .inl (by decide +kernel) | exact .inr (by decide +kernel)) (by rw [isSubtype_type]; kernel_rfl)
theorem entry_mdget : entryFor table "method_descriptor.__get__" = some Builtin.«method_descriptor.__get__» := entryFor_of_tree (by kernel_rfl)
theorem args_mdget (a b c : Value) : argsOk "method_descriptor.__get__" ⟨[a, b, c], []⟩ := by unfold argsOk; kernel_rfl
theorem type_lpop : typeOf (.builtin "list.pop") = pure (.type "method_descriptor") := by show builtinType _ = _; rw [builtinType_eq_fast]; kernel_rfl
theorem type_linit : typeOf (.builtin "list.__init__") = pure (.type "wrapper_descriptor") := by show builtinType _ = _; rw [builtinType_eq_fast]; kernel_rfl
theorem type_llen : typeOf (.builtin "list.__len__") = pure (.type "wrapper_descriptor") := by show builtinType _ = _; rw [builtinType_eq_fast]; kernel_rfl

/-- how a built-in method of list is got through super() -/
structure BiGet (id bt dt getId : String) (b : Builtin) : Prop where
  ty : typeOf (.builtin id) = pure (.type dt)
  slot : Slot dt "__get__" getId
  entry : entryFor table getId = some b
  args : ∀ x y z, argsOk getId ⟨[x, y, z], []⟩
  tree : ∀ x : Addr, ∃ r : Sem Unit, b ⟨[.builtin id, .ref x, .ref 143], []⟩ = ((isInstance (.ref x) (.type "list") >>= fun b => if (!b) = true then r else pure ()) >>= fun _ => newFields bt [.builtin id, .ref x] >>= fun v => ret v)
theorem biInit : BiGet "list.__init__" "method-wrapper" "wrapper_descriptor" "wrapper_descriptor.__get__" Builtin.«wrapper_descriptor.__get__» := ⟨type_linit, slot_wdget, entry_wdget, args_wdget, wd_get_init⟩
theorem biLen : BiGet "list.__len__" "method-wrapper" "wrapper_descriptor" "wrapper_descriptor.__get__" Builtin.«wrapper_descriptor.__get__» := ⟨type_llen, slot_wdget, entry_wdget, args_wdget, wd_get_len⟩
theorem biPop : BiGet "list.pop" "builtin_function_or_method" "method_descriptor" "method_descriptor.__get__" Builtin.«method_descriptor.__get__» := ⟨type_lpop, slot_mdget, entry_mdget, args_mdget, md_get_pop⟩

abbrev boundObj (bt id : String) (x : Addr) : Obj := { cls := .type bt, data := .fields #[.builtin id, .ref x] }
section
variable {prog : Program} {w : World} {A : Around} {E : Value → Shared → Prop} {h : Heap} {g : Array GenState} {d : Drawn} {t : Nat} {os : OsState}
theorem bi_get {id bt dt getId : String} {b : Builtin} (G : BiGet id bt dt getId b) {x : Addr} {Q : Value → Shared → Prop} (hi : Looks (model prog w) h (isInstance (.ref x) (.type "list")) true)
    (hq : Q (.ref h.objs.size) ⟨h.push (boundObj bt id x), g, d, t, os⟩) : wpAny (model prog w) A (call (.builtin getId) [.builtin id, .ref x, .ref 143]) Q E ⟨h, g, d, t, os⟩ := by
  refine wpAny_call_entry G.slot G.ty G.entry ?_ (G.args _ _ _)
  obtain ⟨r, e⟩ := G.tree x
  rw [e]
  refine wpAny_bind (wpAny_bind (hi.at ?_))
  simp only [Bool.not_true, Bool.false_eq_true, if_false]
  refine wpAny_pure (wpAny_bind (wpAny_newObj_type ?_))
  exact wpAny_pure ⟨_, rfl, hq⟩

theorem super_ga_bi {id bt dt getId : String} {b : Builtin} (G : BiGet id bt dt getId b) {so D x : Addr} {l₀ l : List Value} {K : Frag} {name : Str} {tk : Tok} {Q : Fin → Shared → Prop}
    (hso : h.get? so = some { cls := .type "super", dict := none, data := .fields #[.ref D, .ref x, .ref 143], slots := #[] }) (hno : Looks (model prog w) h (opaqueClassAbove (.ref 143)) none)
    (hC : Looks (model prog w) h (mroOf (.ref 143)) l₀) (hl : (l₀.dropWhile (· != .ref D)).drop 1 = l) (X : K.In h)
    (hf : alongIn K name l = some (some (.builtin id))) (hi : Looks (model prog w) h (isInstance (.ref x) (.type "list")) true) (hxC : x ≠ 143) (hn : (name == ("__class__" : Str)) = false)
    (hq : Q (.done (.ret (.ref h.objs.size))) ⟨h.push (boundObj bt id x), g, d, t, os⟩) :
    wpAny (model prog w) A (Builtin.«super.__getattribute__» ⟨[.ref so, .str name tk], []⟩) Q E ⟨h, g, d, t, os⟩ := by
  have hlk := G.slot.lookup
  have hne : (Value.ref x == Value.ref 143) = false := by simp [hxC]
  have hdt : ({ cls := .type "super", dict := none, data := .fields #[.ref D, .ref x, .ref 143], slots := #[] } : Obj).data = .fields #[.ref D, .ref x, .ref 143] := rfl
  have f0 : (#[.ref D, .ref x, .ref 143] : Array Value)[0]? = some (.ref D) := rfl
  have f1 : (#[.ref D, .ref x, .ref 143] : Array Value)[1]? = some (.ref x) := rfl
  have f2 : (#[.ref D, .ref x, .ref 143] : Array Value)[2]? = some (.ref 143) := rfl
  have hty := G.ty
  unfold Builtin.«super.__getattribute__»
  repeat (first
    | (with_reducible refine wpAny_field hso hdt f0 ?_) | (with_reducible refine wpAny_field hso hdt f1 ?_) | (with_reducible refine wpAny_field hso hdt f2 ?_)
    | (with_reducible refine ks_wpAny_notOpaque hno ?_)
    | (with_reducible refine Looks.at hC ?_; rw [hl])
    | (refine ks_forIn_along X (fun _ _ => rfl) rfl ?_ hf)
    | (with_reducible refine wpAny_of_eq hty ?_)
    | (with_reducible refine wpAny_of_eq hlk ?_)
    | (with_reducible refine bi_get G hi ?_)
    | (with_reducible refine ⟨_, rfl, ?_⟩)
    | (simp only [hn, hne, Bool.or_false, Bool.false_eq_true, if_false])
    | wp_step
    | dsimp only)
  all_goals exact hq

theorem super_method_bi {id bt dt getId : String} {b : Builtin} (G : BiGet id bt dt getId b) {so D x : Addr} {l₀ l : List Value} {K : Frag} {name : Str} {pl : Sem Bool} {Q : Value × List Value → Shared → Prop}
    (hso : h.get? so = some { cls := .type "super", dict := none, data := .fields #[.ref D, .ref x, .ref 143], slots := #[] }) (hno : Looks (model prog w) h (opaqueClassAbove (.ref 143)) none)
    (hC : Looks (model prog w) h (mroOf (.ref 143)) l₀) (hl : (l₀.dropWhile (· != .ref D)).drop 1 = l) (X : K.In h)
    (hf : alongIn K name l = some (some (.builtin id))) (hi : Looks (model prog w) h (isInstance (.ref x) (.type "list")) true) (hxC : x ≠ 143) (hn : (name == ("__class__" : Str)) = false)
    (hq : Q (.ref h.objs.size, []) ⟨h.push (boundObj bt id x), g, d, t + 1, os⟩) :
    wpAny (model prog w) A (getMethod (.ref so) name pl) Q E ⟨h, g, d, t, os⟩ := by
  have hlk := F.ks_slot_super_ga.lookup
  have hcan := F.ks_canon_super_ga
  have hT : ∀ t', (⟨h, g, d, t', os⟩ : Shared).TypeIs (.ref so) "super" := fun _ => ⟨_, hso, rfl⟩
  unfold getMethod
  refine wpAny_bind (wpAny_specialOf (hT _) hlk ?_)
  show wpAny _ _ (if (Manifest.canonical "super.__getattribute__" != "object.__getattribute__") = true then _ else _) _ _ _
  rw [if_pos hcan]
  unfold getAttr getAttrBy
  refine wpAny_bind (wpAny_bind (wpAny_mkText (wpAny_holding (wpAny_bind (wpAny_typeOf (hT _) (wpAny_bind (wpAny_of_eq hlk ?_)))))))
  show wpAny _ _ (getAttrByItsOwn (.ref so) (.str name t) (.type "super") (.builtin "super.__getattribute__") true false) _ _ _
  unfold getAttrByItsOwn hookBefore callGetattribute boundAndCalled
  refine wpAny_bind (wpAny_of_eq (show (if onTheHeap (.type "super") then typeLookup (.type "super") "__getattr__" else pure none) = pure none from rfl) ?_)
  refine wpAny_bind (wpAny_attempt (wpAny_holding ?_))
  show wpAny _ _ (bindSpecial (.builtin "super.__getattribute__") (.ref so) >>= _) _ _ _
  refine wpAny_bind (wpAny_of_eq (F.ks_slot_super_ga.bind _) ?_)
  refine wpAny_mono (Q := fun v s' => v = .ref h.objs.size ∧ s' = ⟨h.push (boundObj bt id x), g, d, t + 1, os⟩) (E := fun _ _ => False)
    (wpAny_call_entry F.ks_slot_super_ga (hT _) F.ks_entry_super_ga (super_ga_bi G hso hno hC hl X hf hi hxC hn ⟨_, rfl, rfl, rfl⟩) (F.ks_gaArgs_super _ _)) (fun v s' hv => ?_) fun _ _ z => z.elim
  obtain ⟨rfl, rfl⟩ := hv
  exact wpAny_pure (wpAny_pure hq)
end

section
variable {prog : Program} {w : World} {A : Around} {E : Value → Shared → Prop} {s : Shared} {K : Frag} {x d L : Addr} {h₀ : Heap} {m : Str → Option Value} {news : List (Addr × Obj)} {vs : List Value} {k : Nat}
theorem super_meth {id bt dt getId : String} {b : Builtin} (G : BiGet id bt dt getId b) {so D : Addr} {name : Str} {pl : Sem Bool} {Q : Value × List Value → Shared → Prop} (F : Fr h₀ L s.heap m) (X₀ : K.In h₀) (N : News h₀ L s.heap news)
    (hso : (so, ks_superObj D x 143) ∈ news) (hx : (x, accObj d vs k) ∈ news) (ho : nsIn K cStatics "thirdparty.any" = some none) (hm : ks_superIn K 143 D name = some (some (.builtin id))) (hml : mroIn K 143 (.type "list") = some true) (hn : (name == ("__class__" : Str)) = false)
    (h : ∀ q h', Fr h₀ L h' m → News h₀ L h' ((q, boundObj bt id x) :: news) → (∀ p ∈ news, p.1 < q) → Q (.ref q, []) { s with heap := h', toks := s.toks + 1 }) : wpAny (model prog w) A (getMethod (.ref so) name pl) Q E s := by
  have X : K.In s.heap := X₀.keeps F.keep
  obtain ⟨hh, g, dd, t, os⟩ := s
  cases hc : clsIn K 143 with
  | none => unfold ks_superIn at hm; rw [hc] at hm; cases hm
  | some cd =>
    unfold ks_superIn at hm
    rw [hc] at hm
    have hx' := (N _ hx).1
    have hne : x ≠ 143 := by
      rintro rfl
      unfold clsIn at hc
      split at hc
      · rename_i c d' cd' sl ho'
        have e := X _ _ ho'
        dsimp only at hx' e
        rw [hx'] at e
        cases e
      · cases hc
    refine super_method_bi G (N _ hso).1 (looks_opaque X ho) (l₀ := cd.mro) ?_ rfl X hm (acc_isList X hx' hml) hne hn ?_
    · exact fun A Q E s k q => wpAny_bind ((looks_clsIn X hc) A _ E s k (wpAny_pure q))
    · obtain ⟨F', N', l'⟩ := ks_newsPush (s := ⟨hh, g, dd, t, os⟩) (o := boundObj bt id x) F N rfl (Heap.get?_push_at rfl rfl) (fun b o e => Heap.get?_push_of_some _ e)
      exact h _ _ F' N' l'

def BoundP (bt id : String) (q x : Addr) (h : Heap) : Prop := h.get? q = some (boundObj bt id x)
theorem keeps_B {M : Model} {bt id : String} {q x : Addr} (hb : bt = "method-wrapper" ∨ bt = "builtin_function_or_method") (h : Heap) (X : BoundP bt id q x h) : ∃ k, (k = Keeper.frame ∨ k = Keeper.machine ∨ k = Keeper.boundFrame) ∧ Looks M h (keeperOf (.ref q)) k := by
  refine ⟨.machine, .inr (.inl rfl), (Looks.ld (part := none) X).andThen ?_⟩
  rcases hb with rfl | rfl <;> exact Looks.now
theorem callWith_B0 {M : Model} {env : Env} {pos : Pos} {first : List Value} {bt id : String} {q x : Addr} {Q : Value → Shared → Prop} (hb : bt = "method-wrapper" ∨ bt = "builtin_function_or_method") (X : BoundP bt id q x s.heap) (h : wpAny M A (call (.ref q) (first ++ [])) Q E s) : wpAny M A (callWith pos (.ref q) first (backTo pos (starEach [] env)) []) Q E s :=
  callWith_of rfl (keeps_B hb) (evalArgs_nil3 ⟨X, h⟩)

theorem call_bound {id bt : String} {q : Addr} {b : Builtin} {Q : Value → Shared → Prop} (hb : bt = "method-wrapper" ∨ bt = "builtin_function_or_method") (hq : s.heap.get? q = some (boundObj bt id x))
    (hpl : plainId id = true) (he : entryFor table id = some b) (hc : ∀ A' E', wpAny (model prog w) A' (checkBoundCall id ⟨[.ref x], []⟩) (fun _ s₁ => s₁ = s) E' s)
    (h : wpAny (model prog w) A.in1 (b ⟨[.ref x], []⟩) (fun fin s' => ∃ v, fin = .done (.ret v) ∧ Q v s') E s) : wpAny (model prog w) A (call (.ref q) []) Q E s := by
  refine wpAny_call (codeAny_of_tree ?_)
  show wpAny _ _ (callAny (.ref q) _) _ _ _
  obtain ⟨hh, g, dd, t, os⟩ := s
  dsimp only at hq
  refine nd_load hq ?_
  have step : ∀ A', wpAny (model prog w) A' (checkBoundCall id ⟨[.ref x], []⟩ >>= fun _ => again (.builtin id ⟨[.ref x], []⟩))
      (fun fin s' => match fin with | .done f => (match (Except.ok f : Result) with | .ok (.ret v) => Q v s' | .ok _ => False | .error e => E e s') | .again c' => c'.quiet = true ∧ codeAny (model prog w) A c' (fun r s' => match r with | .ok (.ret v) => Q v s' | .ok _ => False | .error e => E e s') s') (fun e s' => E e s') ⟨hh, g, dd, t, os⟩ := by
    intro A'
    refine wpAny_bind (wpAny_mono (hc A' _) (fun _ s₁ z => ?_) fun _ _ z => z)
    subst z
    refine wpAny_pure ⟨plainId_quiet hpl _, codeAny_builtin he ?_⟩
    rw [Around.under_plainId hpl _]
    refine wpAny_mono h (fun fin s' z => ?_) fun _ _ z => z
    obtain ⟨v, rfl, z⟩ := z
    exact z
  rcases hb with rfl | rfl
  · exact step _
  · exact step _
end

/-- the ledger with another object at b -/
def updL (b : Addr) (o : Obj) (nx : List (Addr × Obj)) : List (Addr × Obj) := nx.map fun p => if p.1 = b then (b, o) else p
section
variable {h₀ h h' : Heap} {L b : Addr} {o ob : Obj} {nx : List (Addr × Obj)} {m : Str → Option Value}
theorem news_updL (N : News h₀ L h nx) (hs : Heap.SameBut b h h') (ho : h'.get? b = some o) : News h₀ L h' (updL b o nx) := by
  intro p hp
  obtain ⟨q, hq, rfl⟩ := List.mem_map.mp hp
  have z := N q hq
  by_cases e : q.1 = b
  · rw [if_pos e]
    exact ⟨ho, e ▸ z.2.1, e ▸ z.2.2⟩
  · rw [if_neg e]
    exact ⟨(hs.2 _ e).trans z.1, z.2⟩
theorem mem_updL_self (h : (b, ob) ∈ nx) : (b, o) ∈ updL b o nx := List.mem_map.mpr ⟨_, h, if_pos rfl⟩
theorem mem_updL_ne {p : Addr × Obj} (h : p ∈ nx) (hne : p.1 ≠ b) : p ∈ updL b o nx := List.mem_map.mpr ⟨_, h, if_neg hne⟩
theorem news_same (N : News h₀ L h nx) (hb : (b, o) ∈ nx) (hs : Heap.SameBut b h h') (ho : h'.get? b = some o) : News h₀ L h' nx := by
  intro p hp
  have z := N p hp
  by_cases e : p.1 = b
  · have e2 : p.2 = o := by
      have := (N _ hb).1
      rw [← e, z.1] at this
      exact Option.some.inj this
    refine ⟨?_, z.2⟩
    rw [e, ho, e2]
  · exact ⟨(hs.2 _ e).trans z.1, z.2⟩
/-- two entries of one ledger that hold different objects lie apart -/
theorem news_ne {p q : Addr × Obj} (N : News h₀ L h nx) (hp : p ∈ nx) (hq : q ∈ nx) (hne : p.2 ≠ q.2) : p.1 ≠ q.1 := by
  intro e
  have h1 := (N p hp).1
  rw [e, (N q hq).1] at h1
  exact hne (Option.some.inj h1).symm
end

section
variable {prog : Program} {w : World} {A : Around} {E : Value → Shared → Prop} {s : Shared} {K : Frag} {x d L q : Addr} {h₀ : Heap} {m : Str → Option Value} {news : List (Addr × Obj)} {vs : List Value} {k : Nat} {Q : Value → Shared → Prop}
theorem bound_init (F : Fr h₀ L s.heap m) (N : News h₀ L s.heap news) (hq : (q, boundObj "method-wrapper" "list.__init__" x) ∈ news) (hx : (x, accObj d [] k) ∈ news)
    (h : ∀ h', Fr h₀ L h' m → News h₀ L h' news → Q .none { s with heap := h' }) : wpAny (model prog w) A (call (.ref q) []) Q E s := by
  refine call_bound (.inl rfl) (N _ hq).1 PySem.F.slot_list_init.plain PySem.F.entry_list_init (fun A' E' => ?_) ?_
  · have : checkBoundCall "list.__init__" ⟨[.ref x], []⟩ = pure () := by kernel_rfl
    rw [this]; exact wpAny_pure rfl
  · exact acc_init_body (N _ hx).1 fun h' hs ho => h h' (F.change hs (N _ hx).2.1 (N _ hx).2.2) (news_same N hx hs ho)
theorem bound_len (N : News h₀ L s.heap news) (hq : (q, boundObj "method-wrapper" "list.__len__" x) ∈ news) (hx : (x, accObj d vs k) ∈ news)
    (h : Q (.int vs.length s.toks) { s with toks := s.toks + 1 }) : wpAny (model prog w) A (call (.ref q) []) Q E s := by
  refine call_bound (.inl rfl) (N _ hq).1 slot_list_len.plain entry_list_len (fun A' E' => ?_) ?_
  · have : checkBoundCall "list.__len__" ⟨[.ref x], []⟩ = pure () := by kernel_rfl
    rw [this]; exact wpAny_pure rfl
  · exact acc_len_body (N _ hx).1 h


theorem pop_sig : Manifest.signature? "list.pop" = some ⟨.positional, "list.pop", "pop", .self, [⟨"index", .posOnly, false⟩]⟩ := by kernel_rfl
theorem pop_args (x : Addr) : Bind.checkArgs "list.pop" ⟨.positional, toString (Str.ofString "_Accumulator").toString ++ toString "." ++ toString (Bind.lastOf "list.pop"), "pop", .self, [⟨"index", .posOnly, false⟩]⟩ ⟨[.ref x], []⟩ = pure () := by kernel_rfl
theorem pop_check {M : Model} {h : Heap} {g : Array GenState} {dr : Drawn} {t : Nat} {os : OsState} (X : K.In h) (hx : h.get? x = some (accObj d vs k)) (hmo : mroIn K 143 (.type "module") = some false) (hcd : ∃ cd, clsIn K 143 = some cd ∧ cd.qualname = Str.ofString "_Accumulator") (hty : typeIn K (.ref 143) = some (.type "type")) (A' : Around) (E' : Value → Shared → Prop) :
    wpAny M A' (checkBoundCall "list.pop" ⟨[.ref x], []⟩) (fun _ s₁ => s₁ = ⟨h, g, dr, t, os⟩) E' ⟨h, g, dr, t, os⟩ := by
  obtain ⟨cd, hcd, hqn⟩ := hcd
  have hk : builtinKind "list.pop" = some .method := by decide +kernel
  have hmod : Looks M h (isInstance (.ref x) (.type "module")) false := (acc_type hx).andThen (looks_mroIn X hmo)
  have hnt : Looks M h (isType (.ref x)) false := by unfold isType; exact (Looks.ld hx).andThen .now
  have hcls := looks_clsIn (M := M) X hcd
  have hct := looks_typeIn (M := M) X hty
  have hto := acc_type (M := M) hx
  have hva : Manifest.varargsMethods.contains "list.pop" = false := by decide +kernel
  have hkm : ((Manifest.AttrKind.method != Manifest.AttrKind.method) && (Manifest.AttrKind.method != Manifest.AttrKind.classMethod)) = false := by decide
  unfold checkBoundCall
  simp only [hk, pop_sig, hkm, Bool.false_eq_true, if_false]
  refine wpAny_bind (hmod.at ?_)
  simp only [hva, Bool.or_false, Bool.false_eq_true, if_false]
  refine wpAny_bind (hnt.at ?_)
  simp only [Bool.false_eq_true, if_false]
  refine wpAny_bind (hto.at ?_)
  dsimp only
  refine wpAny_bind (hcls.at ?_)
  refine wpAny_bind (hct.at ?_)
  rw [if_pos (by decide), hqn, pop_args]
  exact wpAny_pure rfl
theorem bound_pop {y : Value} (F : Fr h₀ L s.heap m) (X₀ : K.In h₀) (N : News h₀ L s.heap news) (hq : (q, boundObj "builtin_function_or_method" "list.pop" x) ∈ news) (hx : (x, accObj d (vs ++ [y]) k) ∈ news) (hsz : vs.length < 1000)
    (hmo : mroIn K 143 (.type "module") = some false) (hcd : ∃ cd, clsIn K 143 = some cd ∧ cd.qualname = Str.ofString "_Accumulator") (hty : typeIn K (.ref 143) = some (.type "type"))
    (h : ∀ h', Fr h₀ L h' m → News h₀ L h' (updL x (accObj d vs (k + 1)) news) → Q y { s with heap := h' }) : wpAny (model prog w) A (call (.ref q) []) Q E s := by
  have X := X₀.keeps F.keep
  refine call_bound (.inr rfl) (N _ hq).1 PySem.F.slot_list_pop.plain PySem.F.entry_list_pop (fun A' E' => ?_) ?_
  · obtain ⟨hh, g, dr, t, os⟩ := s
    exact pop_check X (N _ hx).1 hmo hcd hty A' E'
  · exact acc_pop_body (N _ hx).1 hsz fun h' hs ho => h h' (F.change hs (N _ hx).2.1 (N _ hx).2.2) (news_updL N hs ho)
theorem news_append {v : Value} (F : Fr h₀ L s.heap m) (X₀ : K.In h₀) (N : News h₀ L s.heap news) (hx : (x, accObj d vs k) ∈ news) (hm : mroIn K 143 (.type "list") = some true) (hsz : vs.length < 1000)
    (h : ∀ h', Fr h₀ L h' m → News h₀ L h' (updL x (accObj d (vs ++ [v]) (k + 1)) news) → Q .none { s with heap := h' }) : wpAny (model prog w) A (call (.builtin "list.append") [.ref x, v]) Q E s :=
  acc_append (X₀.keeps F.keep) (N _ hx).1 hm (by rw [sizeLine_eq]; omega) fun h' hs ho => h h' (F.change hs (N _ hx).2.1 (N _ hx).2.2) (news_updL N hs ho)
end
end Mine
end
section
open PySem PySem.W PyProof.Rows
open PySem.Spec PySem.Calls
open Builtin Builtin.ObjectAttr Builtin.Getset_descriptor
set_option maxRecDepth 100000
namespace Mine
theorem refuse_list (self : Value) : refuseLoop self "__setattr__" [.ref 143, .type "list", .type "object"] = pure () := by
  rw [refuseLoop_ref]
  kernel_rfl
/-- the class's line of bases, as the written part has it -/
def accMro (K : Frag) : Bool := (clsIn K 143).any fun cd => cd.mro == [.ref 143, .type "list", .type "object"] && cd.hasDict
section
variable {prog : Program} {w : World} {A : Around} {E : Value → Shared → Prop} {s : Shared} {K : Frag} {x dx L : Addr} {h₀ : Heap} {m : Str → Option Value} {news : List (Addr × Obj)} {vs : List Value} {k : Nat} {es es' : List DictEntry} {n n' : Nat} {name : Str} {v : Value}
theorem acc_setattr {Q : Unit → Shared → Prop} (F : Fr h₀ L s.heap m) (X₀ : K.In h₀) (N : News h₀ L s.heap news) (hx : (x, accObj dx vs k) ∈ news) (hdx : (dx, dictOf es n) ∈ news)
    (hs : findIn K (.ref 143) "__setattr__" = some (some (.builtin "object.__setattr__"))) (hp : accMro K = true) (ht : findIn K (.ref 143) name = some none) (hl : (getL name es).isSome = true)
    (e : (putL name (PyData.keyHash w.params name) (.str name (s.toks + 1)) v es, putN name es n) = (es', n')) (hz : es'.length ≤ 1000)
    (h : ∀ h', Fr h₀ L h' m → News h₀ L h' (updL dx (dictOf es' n') news) → Q () { s with heap := h', toks := s.toks + 2 }) :
    wpAny (model prog w) A (setAttr (.ref x) name v) Q E s := by
  have X := X₀.keeps F.keep
  have I := inst_acc N hx hdx
  obtain ⟨e1, e2⟩ := Prod.mk.inj e
  refine set_plain X I hs ?_
  have SF := PySem.F.store_object
  obtain ⟨cd, hc, ho⟩ := any_some hp
  obtain ⟨hmro, hhd⟩ := Bool.and_eq_true_iff.mp ho
  have hmro : cd.mro = [.ref 143, .type "list", .type "object"] := beq_iff_eq.mp hmro
  have hm : Looks (model prog w) s.heap (mroOf (.ref 143)) cd.mro := (looks_clsIn X hc).andThen .now
  have sub : Looks (model prog w) s.heap (isInstance (.ref x) (.type "object")) true := I.type.andThen (looks_mroIn X (by unfold mroIn; rw [hc, Option.bind_some, hmro]; rfl))
  have hob : (Obj.putName name (PyData.keyHash w.params name) (.str name (s.toks + 1)) v (dictOf es n)) = dictOf es' n' := by rw [putName_dict, e1, e2]
  have D := (N (dx, dictOf es n) hdx)
  refine codeAny_call_builtin (s := { s with toks := s.toks + 1 }) SF.slot.plain SF.entry (@check_slot (model prog w) _ _ { s with toks := s.toks + 1 } "object.__setattr__" "object" "__setattr__" (.ref x) [.str name s.toks, v] [] _ SF.kind SF.split sub (SF.args (.ref x) (.str name s.toks) v) ?_)
  rw [osa_eq, refuse_eq]
  refine wpAny_bind (wpAny_bind (I.type.here (s := { s with toks := s.toks + 1 }) (wpAny_bind (hm.here (s := { s with toks := s.toks + 1 }) ?_))))
  rw [hmro, refuse_list]
  refine wpAny_pure (wpAny_bind (I.type.here (s := { s with toks := s.toks + 1 }) (wpAny_bind ((looks_findIn X ht).here (s := { s with toks := s.toks + 1 }) (wpAny_bind (wpAny_pure ?_))))))
  dsimp only
  have hs' : Heap.SameBut dx s.heap (s.heap.update dx (Obj.putName name (PyData.keyHash w.params name) (.str name (s.toks + 1)) v)) := Heap.SameBut.update ..
  have ge : (s.heap.update dx (Obj.putName name (PyData.keyHash w.params name) (.str name (s.toks + 1)) v)).get? dx = some (dictOf es' n') := by
    rw [Heap.get?_update_self _ D.1 (by rw [hob]; rfl), hob]
  refine wpAny_bind (wpAny_pure (wpAny_bind (wpAny_bind (wpAny_loadPart (N _ hx).1 (wpAny_bind ((looks_clsIn X hc).here (s := { s with toks := s.toks + 1 }) ?_))))))
  rw [hhd]
  refine wpAny_pure (a := some dx) (wpAny_bind (wpAny_pure (wpAny_bind ?_)))
  unfold nsSet
  refine wpAny_bind (wpAny_bind (wpAny_askSetting (wpAny_pure (wpAny_bind (wpAny_mkText (wpAny_bind (wpAny_loadPart D.1 ?_)))))))
  have c : (!es.toArray.any (·.key.isStr name) && es.toArray.any (·.refKey)) = false := by
    rw [List.any_toArray, List.any_toArray]
    unfold getL at hl
    split at hl
    · rename_i en he
      rw [List.any_eq_true.mpr ⟨en, List.mem_of_find?_eq_some he, List.find?_some he⟩]; rfl
    · split at hl
      · cases hl
      · rename_i z; rw [Bool.not_eq_true] at z; rw [z, Bool.and_false]
  dsimp only
  rw [aRefKeyMayBeTheName_at, c]
  refine wpAny_updatePart D.1 ?_
  refine wpAny_bind (wpAny_lookBehind ge (pastItsLine_dict (by rw [List.size_toArray, sizeLine_eq]; omega)) ?_)
  exact wpAny_pure (h _ (F.change hs' D.2.1 D.2.2) (news_updL N hs' ge))

theorem updL_off {d : Addr} {o : Obj} : ∀ {l : List (Addr × Obj)}, (∀ p ∈ l, p.1 ≠ d) → updL d o l = l
  | [], _ => rfl
  | p :: r, h => by
    show (if p.1 = d then (d, o) else p) :: updL d o r = p :: r
    rw [if_neg (h p (.head _)), updL_off fun q hq => h q (.tail _ hq)]
theorem updL_of_upd {d : Addr} {o o' : Obj} : ∀ {l l' : List (Addr × Obj)}, Upd d o o' l l' → updL d o' l = l'
  | _, _, .head h => by
    show (if d = d then (d, o') else _) :: updL d o' _ = _
    rw [if_pos rfl, updL_off h]
  | _, _, .tail (p := p) h r => by
    show (if p.1 = d then (d, o') else p) :: updL d o' _ = _
    rw [if_neg h, updL_of_upd r]
theorem acc_setattrU {news' : List (Addr × Obj)} {Q : Unit → Shared → Prop} (F : Fr h₀ L s.heap m) (X₀ : K.In h₀) (N : News h₀ L s.heap news) (hx : (x, accObj dx vs k) ∈ news) (hdx : (dx, dictOf es n) ∈ news)
    (hs : findIn K (.ref 143) "__setattr__" = some (some (.builtin "object.__setattr__"))) (hp : accMro K = true) (ht : findIn K (.ref 143) name = some none) (hl : (getL name es).isSome = true)
    (e : (putL name (PyData.keyHash w.params name) (.str name (s.toks + 1)) v es, putN name es n) = (es', n')) (U : Upd dx (dictOf es n) (dictOf es' n') news news') (hz : es'.length ≤ 1000)
    (h : ∀ h', Fr h₀ L h' m → News h₀ L h' news' → Q () { s with heap := h', toks := s.toks + 2 }) :
    wpAny (model prog w) A (setAttr (.ref x) name v) Q E s :=
  acc_setattr F X₀ N hx hdx hs hp ht hl e hz fun h' F' N' => h h' F' (updL_of_upd U ▸ N')
end
end Mine
end
section
open PySem PySem.W PyProof.Rows
open PySem.Spec PySem.Calls
open Builtin Builtin.ObjectAttr Builtin.Getset_descriptor
set_option maxRecDepth 100000
namespace Mine
theorem entry_lga : entryFor table "list.__getattribute__" = some Builtin.«object.__getattribute__» :=
  entryFor_alias (id' := "object.__getattribute__") (by rw [fastTable_eq_tree]; kernel_rfl) (by decide +kernel) (by decide +kernel) (by rw [fastTable_eq_tree]; kernel_rfl)
theorem lga_args (a b : Value) : argsOk "list.__getattribute__" ⟨[a, b], []⟩ := by unfold argsOk; kernel_rfl
theorem lga_slot : Slot "list" "__getattribute__" "list.__getattribute__" := .of (owner := "list") (n := "__getattribute__") (by rw [typeLookup_type, builtinLookup_eq_fast]; kernel_rfl) (by decide +kernel) (by decide +kernel) (by decide +kernel)
  (by first | exact .inl (by decide +kernel) | exact .inr (by decide +kernel)) (by rw [isSubtype_type]; kernel_rfl)
section
variable {prog : Program} {w : World} {A : Around} {E : Value → Shared → Prop} {s : Shared} {K : Frag} {x dx L : Addr} {h₀ : Heap} {m : Str → Option Value} {news : List (Addr × Obj)} {vs : List Value} {k : Nat} {es : List DictEntry} {n : Nat} {name : Str} {v : Value}
/-- how the accumulator's attributes are found, as the written part has it -/
def accGet (K : Frag) : Bool := findIn K (.ref 143) "__getattribute__" == some (some (.builtin "list.__getattribute__")) && findIn K (.ref 143) "__getattr__" == some none && mroIn K 143 (.type "list") == some true && hasDictIn K 143
theorem accGet_of (h : accGet K = true) : findIn K (.ref 143) "__getattribute__" = some (some (.builtin "list.__getattribute__")) ∧ findIn K (.ref 143) "__getattr__" = some none ∧ mroIn K 143 (.type "list") = some true ∧ hasDictIn K 143 = true := by
  unfold accGet at h
  simp only [Bool.and_eq_true, beq_iff_eq] at h
  exact ⟨h.1.1.1, h.1.1.2, h.1.2, h.2⟩
theorem acc_getattr {expr : Bool} {Q : Value → Shared → Prop} (F : Fr h₀ L s.heap m) (X₀ : K.In h₀) (N : News h₀ L s.heap news) (hx : (x, accObj dx vs k) ∈ news) (hdx : (dx, dictOf es n) ∈ news) (hg : accGet K = true)
    (ha : findIn K (.ref 143) name = some none) (hl : getL name es = some (some v)) (hv : handedIn v = true) (h : Q v { s with toks := s.toks + 1 }) : wpAny (model prog w) A (getAttr (.ref x) name expr) Q E s := by
  have X := X₀.keeps F.keep
  have I := inst_acc N hx hdx
  obtain ⟨h1, h2, h3, h4⟩ := accGet_of hg
  have hf := findObj_own (od := dictOf es n) (v := v) h4 ha rfl hl
  have hi := acc_isList (M := model prog w) X (N _ hx).1 h3
  obtain ⟨hh, g, d, t, os⟩ := s
  have L0 := I.type (M := model prog w)
  have L1 := looks_findIn (M := model prog w) X h1
  have L2 := looks_findIn (M := model prog w) X h2
  have L3 := looks_find (M := model prog w) X I hf
  unfold getAttr getAttrBy
  refine wpAny_bind (wpAny_mkText (wpAny_holding (wpAny_bind (L0.at (wpAny_bind (L1.at ?_))))))
  show wpAny _ _ (getAttrByItsOwn (.ref x) (.str name t) (.ref 143) (.builtin "list.__getattribute__") true expr) _ _ _
  unfold getAttrByItsOwn
  refine wpAny_bind ?_
  show wpAny _ _ (typeLookup (.ref 143) "__getattr__") _ _ _
  refine L2.at ?_
  refine wpAny_bind (wpAny_attempt (wpAny_holding ?_))
  unfold callGetattribute
  rw [show (expr && onTheHeap (Value.builtin "list.__getattribute__")) = false from Bool.and_false _, if_neg (by decide)]
  unfold boundAndCalled
  rw [lga_slot.bind]
  refine wpAny_bind (wpAny_pure ?_)
  show wpAny _ _ (call (.builtin "list.__getattribute__") [.ref x, .str name t]) _ _ _
  refine wpAny_call (codeAny_call_builtin lga_slot.plain entry_lga ?_)
  refine @check_slot (model prog w) _ _ ⟨hh, g, d, t + 1, os⟩ "list.__getattribute__" "list" "__getattribute__" (.ref x) [.str name t] [] _ (by decide +kernel) (by decide +kernel) hi (lga_args _ _) ?_
  unfold Builtin.«object.__getattribute__»
  refine wpAny_bind (wpAny_pure (wpAny_bind (wpAny_pure (wpAny_bind (L0.at (wpAny_bind (L3.at ?_)))))))
  refine wpAny_pure ?_
  show wpAny _ _ (handedOut v) _ _ _
  rw [handedOut_of hv]; exact wpAny_pure h

theorem acc_method {pl : Sem Bool} {Q : Value × List Value → Shared → Prop} {f : Value} (F : Fr h₀ L s.heap m) (X₀ : K.In h₀) (N : News h₀ L s.heap news) (hx : (x, accObj dx vs k) ∈ news) (hdx : (dx, dictOf es n) ∈ news) (hg : accGet K = true)
    (hf : findIn K (.ref 143) name = some (some f)) (ht : typeIn K f = some (.type "method_descriptor") ∨ typeIn K f = some (.type "function")) (hl : getL name es = some none) (h : Q (f, [.ref x]) s) : wpAny (model prog w) A (getMethod (.ref x) name pl) Q E s := by
  have X := X₀.keeps F.keep
  have I := inst_acc N hx hdx
  have hcan := canon_list_getattribute
  obtain ⟨hga, hk, h3, h4⟩ := accGet_of hg
  obtain ⟨tf, htf, hte⟩ : ∃ tf, typeIn K f = some tf ∧ (tf != .type "function" && tf != .type "method_descriptor" && tf != .type "wrapper_descriptor") = false := by
    rcases ht with ht | ht
    · exact ⟨_, ht, by decide +kernel⟩
    · exact ⟨_, ht, by decide +kernel⟩
  unfold getMethod specialOf
  refine wpAny_bind (wpAny_bind (I.type.here ((looks_findIn X hga).here ?_)))
  dsimp only
  rw [hcan, if_neg (by decide)]
  refine wpAny_bind (wpAny_bind (I.type.here ((looks_findIn X hk).here ?_)))
  refine wpAny_bind (wpAny_bind (I.type.here ((looks_findIn X hf).here (wpAny_bind ((looks_typeIn X htf).here ?_)))))
  rw [hte, if_neg (by decide)]
  refine wpAny_bind (wpAny_loadPart I.at_ ?_)
  refine wpAny_bind (wpAny_bind (wpAny_loadPart (N _ hdx).1 ?_))
  have a : lookIn name (dictOf es n) = some none := by rw [lookIn_dict, hl]
  rw [nsLook_of a]
  refine wpAny_pure ?_
  exact wpAny_bind (wpAny_rule (wpAny_pure h))
end
end Mine
end
section
open PySem PySem.W PyProof.Rows
open PySem.Spec PySem.Calls
set_option maxRecDepth 100000
namespace Mine
/-- an object that holds items: a list, or an object of a class below list -/
def HasItems (h : Heap) (l : Addr) (items : Array Value) : Prop := ∃ o n, h.get? l = some o ∧ o.data = .seq items n
theorem HasItems.at {h h' : Heap} {l : Addr} {items : Array Value} (x : HasItems h l items) (e : ∀ o, h.get? l = some o → h'.get? l = some o) : HasItems h' l items :=
  let ⟨o, n, ho, r⟩ := x; ⟨o, n, e _ ho, r⟩
theorem hasItems_acc {h : Heap} {x d : Addr} {vs : List Value} {k : Nat} (hx : h.get? x = some (accObj d vs k)) : HasItems h x vs.toArray := ⟨_, k, hx, rfl⟩
section
variable {prog : Program} {w : World} {A : Around} {E : Value → Shared → Prop} {s : Shared} {K : Frag} {x d L : Addr} {h₀ : Heap} {m : Str → Option Value} {news : List (Addr × Obj)} {vs : List Value} {k : Nat}
theorem acc_pyIter {Q : Value → Shared → Prop} (X : K.In s.heap) (hx : s.heap.get? x = some (accObj d vs k)) (hm : mroIn K 143 (.type "list") = some true) (hf : findIn K (.ref 143) "__iter__" = some (some (.builtin "list.__iter__")))
    (hQ : Q (.ref s.heap.objs.size) { s with heap := s.heap.push { cls := .type "list_iterator", data := .fields #[.ref x, .int 0 0] } }) :
    wpAny (model prog w) A (pyIter (.ref x)) Q E s := by
  have L0 := acc_type (M := model prog w) hx
  have L1 := looks_findIn (M := model prog w) X hf
  have fin : wpAny (model prog w) A (call (.builtin "list.__iter__") [.ref x]) (fun it s' => it = .ref s.heap.objs.size ∧ s' = { s with heap := s.heap.push { cls := .type "list_iterator", data := .fields #[.ref x, .int 0 0] } }) E s := by
    refine acc_call (n := "__iter__") X hx hm slot_list_iter.plain entry_list_iter (by first | exact .inl (by decide +kernel) | exact .inr (by decide +kernel)) (by decide +kernel) (args_list_iter _) ?_
    show wpAny _ _ (do ret (← newFields "list_iterator" [.ref x, rawInt 0])) _ _ s
    exact wpAny_bind (wpAny_newObj_type (wpAny_pure ⟨_, rfl, rfl, rfl⟩))
  have step : ∀ (refuse : Sem Value) (Q' : Option Value → Shared → Prop), Q' (some (.ref s.heap.objs.size)) { s with heap := s.heap.push { cls := .type "list_iterator", data := .fields #[.ref x, .int 0 0] } } →
      wpAny (model prog w) A (callSpecialIfBoundUnlessNone? (.ref x) "__iter__" refuse) Q' E s := by
    intro refuse Q' hq
    simp only [callSpecialIfBoundUnlessNone?, bindSpecialIfBound?, specialOf]
    refine wpAny_holding (wpAny_bind (wpAny_bind (wpAny_bind (L0.here (L1.here ?_)))))
    simp only [slot_list_iter.bind]
    refine wpAny_bind (wpAny_askSetting (wpAny_ite ?_))
    have rest : wpAny (model prog w) A (if (Value.builtin "list.__iter__" == Value.none) = true then (refuse >>= fun v => pure (some v)) else (call (.builtin "list.__iter__") [.ref x] >>= fun v => pure (some v))) Q' E s := by
      simp only [builtin_beq_none, Bool.false_eq_true, if_false]
      refine wpAny_bind (wpAny_mono fin (fun it s' h' => wpAny_pure ?_) fun _ _ z => z)
      obtain ⟨rfl, rfl⟩ := h'
      exact hq
    split
    · exact wpAny_bind (wpAny_pure (wpAny_pure rest))
    · exact wpAny_tryCatch (wpAny_bind (wpAny_pure (wpAny_pure rest)))
  unfold pyIter
  refine wpAny_bind (wpAny_bind (L0.here (L1.here ?_)))
  show wpAny _ _ (callSpecialIfBoundUnlessNone? (.ref x) "__iter__" _ >>= _) _ _ _
  refine wpAny_bind (step _ _ ?_)
  exact wpAny_bind (wpAny_specialOf (T := "list_iterator") ⟨_, Heap.get?_push_size _ rfl, rfl⟩ slot_listiter_next.lookup (wpAny_pure hQ))

theorem items_next {it l : Addr} {i : Nat} {items : Array Value} {v : Value} {Q : Option Value → Shared → Prop} (hit : s.heap.IsListIter it l i)
    (hl : HasItems s.heap l items) (hx : items[i]? = some v)
    (hQ : ∀ h', h'.IsListIter it l (i + 1) → Heap.SameBut it s.heap h' → Q (some v) { s with heap := h' }) :
    wpAny (model prog w) A (pyNext (.ref it)) Q E s := by
  obtain ⟨o, ho, hc, hd⟩ := id hit
  obtain ⟨ol, nl, hol, hdl⟩ := hl
  unfold pyNext
  refine wpAny_bind (wpAny_attempt (wpAny_callSpecial?_slot (name := Str.ofString "__next__") hit.typeIs slot_listiter_next
    (wpAny_call_entry slot_listiter_next hit.typeIs entry_listiter_next ?_ (args_listiter_next _))))
  show wpAny _ _ (field (.ref it) 0 >>= _) _ _ s
  refine wpAny_bind (wpAny_field ho hd (x := .ref l) rfl ?_)
  show wpAny _ _ (if (Value.ref l == Value.none) = true then _ else _) _ _ s
  rw [if_neg (show ¬ ((Value.ref l == Value.none) = true) from Bool.false_ne_true)]
  show wpAny _ _ (field (.ref it) 1 >>= _) _ _ s
  refine wpAny_bind (wpAny_field ho hd (x := .int i 0) rfl ?_)
  show wpAny _ _ (seqItems? (.ref l) >>= _) _ _ s
  refine wpAny_bind (wpAny_seqItems hol hdl ?_)
  simp only [Int.toNat_natCast, hx]
  refine wpAny_bind (wpAny_setField ho hd (by simp) (wpAny_pure ⟨v, rfl, wpAny_pure (hQ _ ?_ (Heap.SameBut.update ..))⟩))
  exact ⟨_, Heap.get?_update_self _ ho (Obj.isFreed_of_fields (Obj.data_mapFields hd _)), (Obj.cls_mapFields ..).trans hc, by
    rw [Obj.data_mapFields hd]; simp [rawInt]⟩

theorem items_end {it l : Addr} {i : Nat} {items : Array Value} {Q : Option Value → Shared → Prop} (hh : A.handled = none)
    (hit : s.heap.IsListIter it l i) (hl : HasItems s.heap l items) (hx : items[i]? = none)
    (hQ : ∀ h', Heap.ExtBut it s.heap h' → Q none { s with heap := h' }) : wpAny (model prog w) A (pyNext (.ref it)) Q E s := by
  obtain ⟨o, ho, hc, hd⟩ := id hit
  obtain ⟨ol, nl, hol, hdl⟩ := hl
  unfold pyNext
  refine wpAny_bind (wpAny_attempt (wpAny_callSpecial?_slot (name := Str.ofString "__next__") hit.typeIs slot_listiter_next
    (wpAny_call_entry slot_listiter_next hit.typeIs entry_listiter_next ?_ (args_listiter_next _))))
  show wpAny _ _ (field (.ref it) 0 >>= _) _ _ s
  refine wpAny_bind (wpAny_field ho hd (x := .ref l) rfl ?_)
  show wpAny _ _ (if (Value.ref l == Value.none) = true then _ else _) _ _ s
  rw [if_neg (show ¬ ((Value.ref l == Value.none) = true) from Bool.false_ne_true)]
  show wpAny _ _ (field (.ref it) 1 >>= _) _ _ s
  refine wpAny_bind (wpAny_field ho hd (x := .int i 0) rfl ?_)
  show wpAny _ _ (seqItems? (.ref l) >>= _) _ _ s
  refine wpAny_bind (wpAny_seqItems hol hdl ?_)
  simp only [Int.toNat_natCast, hx]
  refine wpAny_bind (wpAny_rule (wpAny_bind (wpAny_setField ho hd (by simp) ?_)))
  show wpAny _ _ (newExc (.type "StopIteration") [] >>= _) _ _ _
  refine wpAny_bind ?_
  simp only [newExc, newTuple]
  refine wpAny_bind (wpAny_newObj_type ?_ (by size_fits))
  refine wpAny_bind (m := firstArgMember _ _) (wpAny_of_eq (a := Value.none) (by first | rfl | (simp only [firstArgMember]; rfl)) ?_)
  refine wpAny_newObj_type ?_ (by size_fits)
  simp only [raiseNew]
  refine wpAny_bind (wpAny_handled ?_)
  rw [show A.in1.handled = none from hh]
  refine wpAny_bind (wpAny_pure (wpAny_throw ?_))
  refine wpAny_bind (wpAny_isInstance (T := "StopIteration") (b := true) ⟨_, Heap.get?_push_size _ rfl, rfl⟩ isSubtype_stop ?_)
  exact wpAny_pure (hQ _ (((Heap.SameBut.update ..).extBut.push _).push _))
end

/-- the walk over an accumulator's items -/
theorem walks_items {prog : Program} {w : World} {A : Around} (hh : A.handled = none) (I ax : Addr) (hne : ax ≠ I) (items : Array Value) :
    Walks prog w A I [I, ax] [I] items.size (fun i v => items[i]? = some v) (fun i h => h.IsListIter I ax i ∧ HasItems h ax items) where
  sub := fun b hb => by simp at hb; simp [hb]
  frame := fun _ _ _ st hk => ⟨st.1.at fun o e => hk I (by simp) o e, st.2.at fun o e => hk ax (by simp) o e⟩
  item := fun i s Q E hi st hQ => by
    refine items_next st.1 st.2 (v := items[i]) (by simp [hi]) fun h' hit' hs' => ?_
    exact hQ _ h' s.toks (by simp [hi]) ⟨hit', st.2.at fun o e => hs'.extBut _ o hne e⟩ fun b o hb e => hs'.extBut b o (fun h => hb (by simp [h])) e
  done := fun s Q E st hQ => items_end hh st.1 st.2 (by simp) fun h' he' => hQ h' s.toks fun b o hb e => he' b o (fun h => hb (by simp [h])) e
  self := fun _ _ _ _ st hQ => wpAny_pyIter_listiter st.1 hQ

/-- the same where the items are tuples that a target takes apart -/
theorem walks_tuples {prog : Program} {w : World} {A : Around} (hh : A.handled = none) (I ax : Addr) (hne : ax ≠ I) (items : Array Value) (Ts : Nat → Addr) (vals : Nat → Array Value)
    (hit : ∀ j, j < items.size → items[j]? = some (.ref (Ts j))) (hTI : ∀ j, j < items.size → Ts j ≠ I) :
    WalksU prog w A I (I :: ax :: (List.range items.size).map Ts) [I] items.size (fun j v => v = vals j)
      (fun j h => h.IsListIter I ax j ∧ HasItems h ax items ∧ ∀ k, k < items.size → h.IsTuple (Ts k) (vals k))
      (fun j T h => (j < items.size ∧ T = Ts j) ∧ h.IsListIter I ax (j + 1) ∧ HasItems h ax items ∧ ∀ k, k < items.size → h.IsTuple (Ts k) (vals k)) where
  sub := fun b hb => by simp at hb; simp [hb]
  frame := fun _ _ _ st hk => ⟨st.1.at fun o e => hk I (by simp) o e, st.2.1.at fun o e => hk ax (by simp) o e,
    fun k hk' => (st.2.2 k hk').at fun o e => hk (Ts k) (List.mem_cons_of_mem _ (List.mem_cons_of_mem _ (List.mem_map.mpr ⟨k, List.mem_range.mpr hk', rfl⟩))) o e⟩
  item := fun i s Q E hi st hQ => by
    refine items_next st.1 st.2.1 (v := .ref (Ts i)) (hit i hi) fun h' hit' hs' => ?_
    have tup : ∀ k, k < items.size → h'.IsTuple (Ts k) (vals k) := fun k hk' => (st.2.2 k hk').extBut hs'.extBut (hTI k hk')
    exact hQ (Ts i) (vals i) h' s.toks rfl (tup i hi) ⟨⟨hi, rfl⟩, hit', st.2.1.at (fun o e => hs'.extBut _ o hne e), tup⟩ fun b o hb e => hs'.extBut b o (fun h => hb (by simp [h])) e
  go := fun _ _ _ _ _ s Q _ hm hQ => wpAny_letOwnedTupleGo_listiter hm.2.1 (hQ s.heap hm.2 fun _ _ _ e => e)
  apart := fun j T _ hm hmem => by
    rcases List.mem_cons.mp hmem with e | e
    · exact hTI j hm.1.1 (hm.1.2 ▸ e)
    · cases e
  done := fun s Q E st hQ => items_end hh st.1 st.2.1 (by simp) fun h' he' => hQ h' s.toks fun b o hb e => he' b o (fun h => hb (by simp [h])) e
  self := fun _ _ _ _ st hQ => wpAny_pyIter_listiter st.1 hQ
end Mine
end
section
open PySem PySem.W PyProof.Rows
open PySem.Spec PySem.Calls
set_option maxRecDepth 100000
namespace Mine
abbrev tabObj (ps : Array Value) : Obj := { cls := .none, data := .fields ps }
abbrev tupObj (a b : Value) : Obj := { cls := .type "tuple", data := .seq #[a, b] }
/-- a code object whose table of inner codes lies at P, as the written part has it (all but the table) -/
def codeTab (K : Frag) (c P : Addr) : Bool := match K.lookup c with
  | some ⟨.type "code", _, .fields vs, _⟩ => vs[11]? == some (.ref P) && (match (vs[18]? : Option Value), (vs[7]? : Option Value), (vs[9]? : Option Value), (vs[10]? : Option Value) with | some (Value.str _ _), some (Value.int _ _), some (Value.bool _), some (Value.int _ _) => true | _, _, _, _ => false)
  | _ => false
theorem getD_of {vs : Array Value} {i : Nat} {v : Value} (h : vs[i]? = some v) : vs.getD i .none = v := by
  rw [Array.getD_eq_getD_getElem?, h]; rfl
theorem code_of {K : Frag} {h : Heap} {c P : Addr} {ps : Array Value} (X : K.In h) (e : codeTab K c P = true) (hP : h.get? P = some (tabObj ps)) (ht : TriplesOk ps.toList) : h.IsCode c P ps ∧ h.TableAt c P ps := by
  unfold codeTab at e
  split at e
  · rename_i od vs sl ho
    obtain ⟨e1, e2⟩ := Bool.and_eq_true_iff.mp e
    have e1 : vs[11]? = some (.ref P) := beq_iff_eq.mp e1
    split at e2
    · rename_i file tf flags tg b text tt h18 h7 h9 h10
      have hc := X _ _ ho
      have hne : c ≠ P := by
        rintro rfl
        rw [hP] at hc
        cases hc
      exact ⟨⟨_, vs, file, tf, flags, tg, b, text, tt, _, hc, rfl, getD_of e1, getD_of h18, getD_of h7, getD_of h9, getD_of h10, hP, rfl, ht, hne⟩, ⟨_, vs, hc, rfl, rfl, e1⟩, hP⟩
    · cases e2
  · cases e

theorem passing_all (n : Nat) : passing (fun _ => true) n 0 = List.range n := by
  unfold passing; simp
section
variable {prog : Program} {w : World} {A : Around} {E : Value → Shared → Prop} {s : Shared} {K : Frag} {x d L c P : Addr} {h₀ : Heap} {m mg mb : Str → Option Value} {news : List (Addr × Obj)} {vs : List Value} {k : Nat} {ps : Array Value} {p : Program} {loose : List Str} {mean : ExcName → Option Value}
/-- a table of inner codes only grows -/
def Grown (ps ps' : Array Value) : Prop := (∃ more, ps' = ps ++ more) ∧ TriplesOk ps'.toList
theorem Grown.refl {ps : Array Value} (h : TriplesOk ps.toList) : Grown ps ps := ⟨⟨#[], by simp⟩, h⟩
theorem Grown.trans {a b c : Array Value} (x : Grown a b) (y : Grown b c) : Grown a c := by
  obtain ⟨⟨m1, rfl⟩, _⟩ := x
  obtain ⟨⟨m2, rfl⟩, t⟩ := y
  exact ⟨⟨m1 ++ m2, by rw [Array.append_assoc]⟩, t⟩

theorem genexpr_code {env : Env} {pos : Pos} {q : Str} {scope : Scope} {Q : Value → Shared → Prop} (hc : env.code = .ref c) (hok : s.heap.IsCode c P ps) (htab : s.heap.TableAt c P ps) (ht : TriplesOk ps.toList)
    (hQ : ∀ cv h' tk ps', Heap.ExtBut P s.heap h' → s.heap.objs.size ≤ h'.objs.size → h'.get? P = some (tabObj ps') → Grown ps ps' → Q cv { s with heap := h', toks := tk }) :
    wpAny (model prog w) A (genexprCode env pos q scope) Q E s := by
  cases hnf : codeAmong pos ps.toList with
  | some cv => exact wpAny_genexprCode_hit hc hok hnf (hQ cv s.heap s.toks ps (Heap.ExtBut.refl _ _) (Nat.le_refl _) htab.2 (Grown.refl ht))
  | none =>
    refine wpAny_genexprCodeX hc hok htab hnf fun c' h' tk hx hge hlt hcode _ htab' _ => ?_
    refine hQ _ h' tk _ hx (Nat.le_trans hge (Nat.le_of_lt hlt)) htab'.2 ⟨⟨_, rfl⟩, ?_⟩
    have : (ps ++ #[rawInt pos.line, rawInt pos.col, Value.ref c']).toList = ps.toList ++ [rawInt pos.line, rawInt pos.col, .ref c'] := by simp
    rw [this]
    exact TriplesOk_snoc _ _ _ _ ht

theorem gen_acc {env : Env} {elt iter : Expr} {xa xb : Str} {pa pb pt : Pos} {kt : Nat} {scope : Scope} {pos : Pos} {Q : Value → Shared → Prop} {Ts : Nat → Addr} {va vb : Nat → Value} {Fv : Nat → Value → Prop}
    (F : Fr h₀ L s.heap m) (X₀ : K.In h₀) (N : News h₀ L s.heap news) (T : Top p loose mean mg mb h₀)
    (hx : (x, accObj d vs k) ∈ news) (hP : (P, tabObj ps) ∈ news) (ht : TriplesOk ps.toList) (hct : codeTab K c P = true) (hcode : env.code = .ref c) (hglob : env.globals = mainGlobals)
    (hm : mroIn K 143 (.type "list") = some true) (hf : findIn K (.ref 143) "__iter__" = some (some (.builtin "list.__iter__")))
    (hvs : ∀ j, j < vs.length → vs[j]? = some (.ref (Ts j)) ∧ (Ts j, tupObj (va j) (vb j)) ∈ news)
    (hh : A.handled = none) (hco : scope.isCoroutine = false) (hclos : closureFor scope env = pure []) (hcell : ∀ y ∈ scope.names, y.2 ≠ .cell) (h0 : scope.names.lookup (".0" : Str) = some NameKind.local)
    (hxa : scope.names.lookup xa = some .local) (hxb : scope.names.lookup xb = some .local) (hab : xa ≠ xb) (hkind : scope.kind = .function) (hroom : A.depth < recursionLimit)
    (hiter : ∀ Q' : Value → Shared → Prop, Q' (.ref x) s → wpAny (model prog w) A (eval iter env) Q' E s) (hs : ∀ v, genFold iter env v = pure v)
    (helt : ∀ (code : Value) (C : Addr) (A' : Around) E' i (u : Shared) m₂, A'.handled = none → A'.depth ≤ A.depth + 1 → A'.units ≤ A.units + 8 → i < vs.length → u.heap.Ns C m₂ → m₂ xa = some (va i) → m₂ xb = some (vb i) →
      (∀ b o, h₀.get? b = some o → u.heap.get? b = some o) →
      wpAny (model prog w) A' (eval elt (genEnv scope [] C code builtinsNs env)) (fun y s₃ => Fv i y ∧ Keeps u s₃) E' u)
    (hQ : ∀ a s₅ ps', (∀ b o, b ≠ P → s.heap.get? b = some o → s₅.heap.get? b = some o) → s₅.heap.get? P = some (tabObj ps') → Grown ps ps' → (AllBare s.gens → AllBare s₅.gens) → s₅.drawn = s.drawn → s₅.os = s.os →
      Gen prog w A (s.heap.objs.size - 1) a vs.length Fv s₅ → Q (.ref a) s₅) :
    wpAny (model prog w) A (eval (.GeneratorExp elt [⟨.Tuple [.Name xa pa, .Name xb pb] kt pt, iter, [], 0⟩] scope pos) env) Q E s := by
  have X := X₀.keeps F.keep
  have hx' := (N _ hx).1
  have hP' := (N _ hP).1
  have hxP : x ≠ P := news_ne N hx hP (by intro e; cases e)
  have hTP : ∀ j, j < vs.length → Ts j ≠ P := fun j hj => news_ne N (hvs j hj).2 hP (by intro e; cases e)
  have hTt : ∀ j, j < vs.length → s.heap.IsTuple (Ts j) #[va j, vb j] := fun j hj => ⟨_, (N _ (hvs j hj).2).1, rfl, _, rfl⟩
  have hTlt : ∀ j, j < vs.length → Ts j < s.heap.objs.size := fun j hj => Heap.lt_size (N _ (hvs j hj).2).1
  have hlim : s.heap.NoLimit := T.nolimit.keeps F.keep
  have hPlt := ltN (Heap.lt_size hP')
  have hpos : (0 : Nat) < s.heap.objs.size := by omega
  have hsz : vs.toArray.size = vs.length := by simp
  refine wpAny_GeneratorExp_walksQTD hh hco hclos hcell h0 hxa hxb hab hkind hroom (hiter _ ?_) hs
  refine acc_pyIter X hx' hm hf ?_
  let s₂ : Shared := { s with heap := s.heap.push { cls := .type "list_iterator", data := .fields #[.ref x, .int 0 0] } }
  have keep₂ : ∀ b o, s.heap.get? b = some o → s₂.heap.get? b = some o := fun b o e => Heap.get?_push_of_some _ e
  have hit₂ : s₂.heap.IsListIter s.heap.objs.size x 0 := ⟨_, Heap.get?_push_size _ rfl, rfl, rfl⟩
  have hsz₂ : s₂.heap.objs.size = s.heap.objs.size + 1 := Heap.size_push ..
  refine ⟨hlim.keeps keep₂, ?_⟩
  obtain ⟨hok, htab⟩ := code_of (X.keeps keep₂) hct (keep₂ _ _ hP') ht
  refine genexpr_code (s := s₂) hcode hok htab ht fun cv h₃ tk₃ ps' hx₃ hge₃ hP₃ hgr => ?_
  obtain ⟨bm, ob, hb1, hb2, hb3, hb4, hb5, hb6⟩ := T.bmain
  have keep₃ : ∀ b o, b ≠ P → s.heap.get? b = some o → h₃.get? b = some o := fun b o hb e => hx₃ b o hb (keep₂ b o e)
  have hbase : ∀ b o, h₀.get? b = some o → h₃.get? b = some o := fun b o e => keep₃ b o (fun e' => by rw [e', (N _ hP).2.2] at e; cases e) (F.keep b o e)
  have hg₃ : h₃.Ns mainGlobals mg := T.g.keeps hbase
  rw [hglob]
  refine wpAny_builtinsFor hg₃ hb1 hb2 (hbase _ _ hb3) hb4 hb5 hb6 ?_
  have hIP : s.heap.objs.size ≠ P := fun e => absurd hPlt (by rw [e]; exact Nat.lt_irrefl _)
  have hxI : x ≠ s.heap.objs.size := Nat.ne_of_lt (Heap.lt_size hx')
  have hit₃ : h₃.IsListIter s.heap.objs.size x 0 := hit₂.at fun o e => hx₃ _ o hIP e
  have hlim₃ : h₃.NoLimit := T.nolimit.keeps hbase
  have hcI : cStatics ∉ [s.heap.objs.size] := by
    intro hm'
    obtain ⟨mc, hn, _⟩ := hlim
    exact absurd hn.lt ((List.mem_singleton.mp hm') ▸ Nat.lt_irrefl _)
  refine ⟨s.heap.objs.size, _, [s.heap.objs.size], vs.toArray.size, _, _, _, fun _ => true, Fv, rfl,
    (fun A' hA => (walks_tuples (prog := prog) (w := w) hA s.heap.objs.size x hxI vs.toArray Ts (fun j => #[va j, vb j]) (fun j hj => by simpa using (hvs j (by simpa using hj)).1) fun j hj => Nat.ne_of_lt (hTlt j (by simpa using hj))).bound), ?_, ?_, ?_, hlim₃, hcI, ?_, ?_⟩
  · rintro i vals ⟨_, rfl⟩; exact ⟨_, _, rfl⟩
  · exact ⟨hit₃, (hasItems_acc hx').at fun o e => keep₃ _ o hxP e, fun j hj => (hTt j (by simpa using hj)).at fun o e => keep₃ _ o (hTP j (by simpa using hj)) e⟩
  · intro b hb
    have h3 : s.heap.objs.size + 1 ≤ h₃.objs.size := hsz₂ ▸ hge₃
    show b < h₃.objs.size
    rcases List.mem_cons.mp hb with rfl | hb
    · exact ltN (by omega)
    · rcases List.mem_cons.mp hb with rfl | hb
      · exact Nat.lt_of_lt_of_le (Heap.lt_size hx') (by omega)
      · obtain ⟨j, hj, rfl⟩ := List.mem_map.mp hb
        exact Nat.lt_of_lt_of_le (hTlt j (by simpa using List.mem_range.mp hj)) (by omega)
  · intro href hhref
    have inB : ∀ (t : Shared), (∀ b ∈ List.range h₃.objs.size, b ∉ [s.heap.objs.size] → ∀ o, href.get? b = some o → t.heap.get? b = some o) → ∀ b o, h₀.get? b = some o → t.heap.get? b = some o := by
      intro t hk b o e
      have e3 := hbase b o e
      refine hk b (List.mem_range.mpr (Heap.lt_size e3)) (fun hb => ?_) o (hhref b o e3)
      rw [List.mem_singleton.mp hb] at e
      exact absurd (Heap.lt_size (F.keep _ _ e)) (Nat.lt_irrefl _)
    refine ⟨fun A' E' i va' vb' t m₂ hA hD hU hPt hn hma hmb hk => wpAny_pure ⟨rfl, ⟨_, _, rfl, fun _ _ e => e⟩⟩, fun A' E' i va' vb' t m₂ hA hD hU hPt _ hn hma hmb hk => ?_⟩
    obtain ⟨hi, he⟩ := hPt
    obtain ⟨e1, e2⟩ : va' = va i ∧ vb' = vb i := by simpa using congrArg Array.toList he
    subst e1 e2
    exact helt cv _ A' E' i t m₂ hA hD hU (by simpa using hi) hn hma hmb (inB t hk)
  · intro a h₅ tk gs hgb hag hsz₅ hk₅ W hat
    have hag' : h₃.objs.size < a := hag
    have h3 : s.heap.objs.size + 1 ≤ h₃.objs.size := hsz₂ ▸ hge₃
    refine hQ a _ ps' (fun b o hb e => hk₅ b o (keep₃ b o hb e)) (hk₅ _ _ hP₃) hgr (fun G => G.push hgb) rfl rfl ?_
    rw [passing_all, List.length_range, hsz] at W
    rw [hsz] at hat
    have W' : WalksS prog w A.in4 a (a :: h₃.objs.size :: List.range h₃.objs.size) (h₃.objs.size :: [s.heap.objs.size]) (GenOnlyQ s.gens.size) vs.length Fv _ :=
      ⟨W.sub, W.grefl, W.gtrans, W.frame, fun i s' Q' E' hi st hQ' => W.item i s' Q' E' hi st fun v s'' hv st' mv => hQ' v s'' (by
        obtain ⟨j, hj, hf⟩ := hv
        have : j = i := by simpa [hi] using hj.symm
        rw [this] at hf; exact hf) st' mv, W.done, W.self⟩
    refine ⟨_, _, _, _, W', hat, (fun i s' st => st.1.typeIs), List.mem_cons_self, ?_, ?_⟩
    · intro b hb
      show b < h₅.objs.size
      rw [hsz₅]
      rcases List.mem_cons.mp hb with rfl | hb
      · exact Nat.lt_succ_self _
      · rcases List.mem_cons.mp hb with rfl | hb
        · exact Nat.lt_succ_of_lt hag'
        · exact Nat.lt_succ_of_lt (Nat.lt_trans (List.mem_range.mp hb) hag')
    · intro b hb
      rcases List.mem_cons.mp hb with rfl | hb
      · exact ltN (by show s.heap.objs.size - 1 < h₃.objs.size; omega)
      · rw [List.mem_singleton.mp hb]
        exact ltN (by omega)
end
end Mine
end
namespace Mine
local macro_rules | `(tactic| k_room) => `(tactic| ktr_room)
local macro_rules | `(tactic| k_units) => `(tactic| ktr_units)
section
open PySem PySem.W PyProof.Rows
open PySem.Spec PySem.Calls
set_option maxRecDepth 100000
set_option pp.deepTerms false
set_option pp.maxSteps 10000
theorem fillC1 : PySem.Challenge.rw_rs0046_01 = PySem.Challenge.rw_rs0046_01 ∧ Mine.hd.heap_39 = Mine.hd.heap_39 := by
  w_top off
  k_fill
  exact ⟨rfl, rfl⟩

/-- the part of a text ahead of its first slash, as the program takes it -/
def headOf (y : Str) : Str := ((Txt.split y (Str.ofString "/"))[0]?).getD Str.empty
theorem headOf_eq {y u : Str} (h : (Txt.split y (Str.ofString "/"))[Int.toNat 0]? = some u) : headOf y = u := congrArg (fun z => Option.getD z Str.empty) h
def hits (u a : Str) : Bool := (!(a == Str.ofString "*")) && !(Builtin.Str.occurrences u (Txt.lower a) 0 u.length 1).isEmpty
def appl (as : List Str) (y : Str) : Bool := as.any (hits (Txt.lower (headOf y)))
def notYet (as : List Str) (y : Str) (i : Nat) : Prop := ∀ a ∈ as.take i, hits (Txt.lower (headOf y)) a = false

section
variable {as : List Str} {y u ag : Str} {i : Nat}
theorem notYet_step (hp : notYet as y i) (hag : as[i]? = some ag) (h : hits (Txt.lower (headOf y)) ag = false) : notYet as y (i + 1) := by
  intro a ha
  rw [List.take_add_one, hag] at ha
  rcases List.mem_append.mp ha with ha | ha
  · exact hp a ha
  · simp at ha; subst ha; exact h
theorem notYet_miss (hp : notYet as y i) (hag : as[i]? = some ag) (hh : headOf y = u) (h2 : (Builtin.Str.occurrences (Txt.lower u) (Txt.lower ag) 0 (Txt.lower u).length 1).isEmpty = true) : notYet as y (i + 1) := by
  subst hh
  refine notYet_step hp hag ?_
  simp [hits, h2]
theorem notYet_star (hp : notYet as y i) (hag : as[i]? = some ag) (h1 : (ag != Str.ofString "*") = false) : notYet as y (i + 1) := by
  refine notYet_step hp hag ?_
  have : (ag == Str.ofString "*") = true := by simpa [bne] using h1
  simp [hits, this]
theorem appl_hit (hag : as[i]? = some ag) (hh : headOf y = u) (h1 : (ag != Str.ofString "*") = true) (h2 : (Builtin.Str.occurrences (Txt.lower u) (Txt.lower ag) 0 (Txt.lower u).length 1).isEmpty = false) : appl as y = true := by
  subst hh
  refine List.any_eq_true.mpr ⟨ag, List.mem_of_getElem? hag, ?_⟩
  have : (ag == Str.ofString "*") = false := by simpa [bne] using h1
  simp [hits, h2, this]
theorem appl_none (hp : notYet as y as.length) : appl as y = false := by
  refine List.any_eq_false.mpr fun a ha => ?_
  rw [hp a (by simpa using ha)]
  decide
end
local macro_rules
  | `(tactic| walk_at "SamePost") => `(tactic| (dsimp only [SamePost]))
  | `(tactic| walk_at "call builtin:str.lower") => `(tactic| first | ((refine SCL.lower (by omega) ?_); intro _) | ((rename ∀ a : PySem.Str, a ∈ _ → _ ≤ _ => hsh9); (rename _[_]? = some _ => hge9); (have hle9 := hsh9 _ (List.mem_of_getElem? hge9)); (refine SCL.lower (by omega) ?_); intro _))
set_option maxHeartbeats 8000000 in
theorem applies_str {w : World} {dp un : Nat} {gd : Option (List Code)} {cn : Str} {cs : Scope} {a : Addr} {ccd : Value} {cl : List (Str × Addr)} {outer : List Env} {A₀ : Around} {base h₀ : Heap} {L : Addr} {m : Str → Option Value} {s : Shared} {Q E : Value → Shared → Prop}
   {pg : Program} {ls : List Str} {mean : ExcName → Option Value} {mg mb : Str → Option Value} {news : List (Addr × Obj)} {l : Addr} {vs : List Value} {as : List Str} {y : Str} {t4 : Tok} {n : Nat}
   (B : Below A₀ base outer h₀) (F : Fr h₀ L s.heap m) (X : (Mine.hd.heap_39 w.params).In h₀) (N : News h₀ L s.heap news)
   (T : Top pg ls mean mg mb h₀) (hk : cs.kind = .function) (hd : dp + 3 < recursionLimit) (hu : un + 64 < cLine)
   (hl : (l, listOf vs.toArray n) ∈ news) (hv : StrsAre vs as) (has : ∀ a ∈ as, a.length ≤ 100) (hy : y.length ≤ 100)
   (hret : ∀ h' tk', Fr h₀ L h' m → News h₀ L h' news → Q (.bool (appl as y)) { s with heap := h', toks := tk' }) :
   wpAny (model PySem.Challenge.pw_rs0046_01 w) (ktrTop dp un gd cn cs L a ccd cl outer) (call (.ref 159) [.ref l, .str y t4]) Q E s := by
  refine wpAny_call ?_
  k_dflt cell_enter
  k_steps
  rename Fr _ _ _ _ => F1
  rename News _ _ _ _ => N1
  rename _[_]? = some _ => hg1
  rename List.map _ _ = Txt.split _ _ => hs1
  rw [hs1] at hg1
  have hh1 := headOf_eq hg1
  have hlen : ∀ (i : Nat) (a : Str), as[i]? = some a → a.length ≤ 100 := fun i a h => has a (List.mem_of_getElem? h)
  with_unfolding_all refine' loop_list_same (vs := vs) (nn := n) (notYet as y) (by rfl) (by repeat (first | exact hl | apply List.Mem.tail)) F1 N1 ?h0 ?turn ?done
  case h0 => intro a ha; simp at ha
  case turn =>
    intro i v h tk own hv1 hp1 F2 N2
    obtain ⟨ag, ta, rfl, hag⟩ := hv.item i v hv1
    have hla := hlen i ag hag
    try k_fold
    k_steps
    · exact SameEnd.intro (by assumption) (by assumption) (fun _ h => h) (by intro z hz; simp only [if_neg hz]) (notYet_miss hp1 hag hh1 (by assumption))
    · have hb := appl_hit hag hh1 (by assumption) (by assumption)
      rw [hb] at hret
      exact hret _ _ (by assumption) (fun p hp => (by assumption : News _ _ _ _) p (by simp [hp]))
    · exact SameEnd.intro (by assumption) (by assumption) (fun _ h => h) (by intro z hz; simp only [if_neg hz]) (notYet_star hp1 hag (by assumption))
  case done =>
    intro u h tk hp1 F2 N2
    k_steps
    have hb := appl_none (hv.length ▸ hp1)
    rw [hb] at hret
    exact hret _ _ (by assumption) (fun p hp => (by assumption : News _ _ _ _) p (by simp [hp]))

set_option maxHeartbeats 8000000 in
theorem applies_none {w : World} {dp un : Nat} {gd : Option (List Code)} {cn : Str} {cs : Scope} {a : Addr} {ccd : Value} {cl : List (Str × Addr)} {outer : List Env} {A₀ : Around} {base h₀ : Heap} {L : Addr} {m : Str → Option Value} {s : Shared} {Q E : Value → Shared → Prop}
   {pg : Program} {ls : List Str} {mean : ExcName → Option Value} {mg mb : Str → Option Value} {news : List (Addr × Obj)} {l : Addr} {vs : List Value} {as : List Str} {n : Nat}
   (B : Below A₀ base outer h₀) (F : Fr h₀ L s.heap m) (X : (Mine.hd.heap_39 w.params).In h₀) (N : News h₀ L s.heap news)
   (T : Top pg ls mean mg mb h₀) (hk : cs.kind = .function) (hd : dp + 3 < recursionLimit)
   (hl : (l, listOf vs.toArray n) ∈ news) (hv : StrsAre vs as)
   (hret : ∀ h' tk', Fr h₀ L h' m → News h₀ L h' news → Q (.bool (as.any (· == Str.ofString "*"))) { s with heap := h', toks := tk' }) :
   wpAny (model PySem.Challenge.pw_rs0046_01 w) (ktrTop dp un gd cn cs L a ccd cl outer) (call (.ref 159) [.ref l, .none]) Q E s := by
  refine wpAny_call ?_
  k_dflt cell_enter
  k_steps
  rename News _ _ _ _ => N1
  refine in_list_strs (hl := News.isList N1 (by repeat (first | exact hl | apply List.Mem.tail))) (hi := hv) ?_
  k_steps
  exact hret _ _ (by assumption) (fun p hp => (by assumption : News _ _ _ _) p (by simp [hp]))
end
section
open PySem PySem.W PyProof.Rows
open PySem.Spec PySem.Calls
set_option maxRecDepth 100000
set_option pp.deepTerms false
set_option pp.maxSteps 10000
theorem fillC2 : PySem.Challenge.rw_rs0046_01 = PySem.Challenge.rw_rs0046_01 ∧ Mine.hd.heap_39 = Mine.hd.heap_39 := by
  w_top off
  k_fill
  exact ⟨rfl, rfl⟩
local macro_rules | `(tactic| k_mem) => `(tactic| assumption)
local macro_rules | `(tactic| k_inst) => `(tactic| (refine' inst_acc ?N ?h1 ?h2; (case N => k_asm); (case h1 => k_mem); (case h2 => k_mem)))
section
open Lean
def meths : Tac := oneOf [
  line `acc_method "aaammKi01_" (sp := [`(tactic| first | exact .inl (by k_is) | exact .inr (by k_is)), `(tactic| first | assumption | k_get)]),
  sup `biPop, sup `biLen, sup `biInit]
where sup (n : Name) : Tac := line `super_meth "aaammiji0_" [`q', `h', `F', `N', `l1] #[mkIdent n] [dcd] `(tactic| try k_lt l1)
def lines2 : String → Tac
  | "getMethod ref" => meths
  | "call ref" => line `bound_init "aamm_" [`h', `F', `N']
  | "callWith ref" => `(tactic| (k_here; k_dflt (refine' callWith_B0 ?k1 ?k2 ?_; (case k2 => exact News.get (by k_asm) (by k_mem)); (case k1 => first | exact .inl rfl | exact .inr rfl))))
  | "wpAt" => `(tactic| (k_dflt ((try dsimp only); first
    | (ks_step "execs cons"; refine ks_wpAt_execs_cons ?_)
    | (ks_step "exec Expr"; refine ks_wpAt_Expr_any ?_)
    | (ks_step "exec Return"; refine ks_wpAt_Return_some ?_)
    | (ks_step "eval Call"; refine ks_wpAt_MethodCall ?_))))
  | "setAttr ref" => line `acc_setattrU "aaammiKigpU0_" [`h', `F', `N'] (sp := [`(tactic| exact Nat.le_of_ble_eq_true rfl)])
  | "getAttr ref" => line `acc_getattr "aaammKi01_" (sp := [`(tactic| first | assumption | k_get), `(tactic| first | assumption | k_handed)])
  | "call builtin:list.append" => line `news_append "aaamis_" [`h', `F', `N']
  | "enter super" => do `(tactic| ($(← fill `ks_code_super "aaaaarr0iib12_3rrr" #[] [`(tactic| first | exact rfl | assumption), `(tactic| first | exact BindsTo.of_eq rfl | exact binds_K (by k_in) rfl (by k_is) rfl rfl rfl), `(tactic| exact locs rfl), dcd] [5, 6, 7, 0, 1, 2, 3, 4, 8, 9, 10, 11, 12, 13, 14, 15, 16]):tactic; intro g' L' h' FG' F' N' B' X' T' l1; (try k_lt l1); (try dsimp only); (try k_lift B')))
  | _ => Macro.throwUnsupported
end
local macro_rules | `(tactic| walk_at $k:str) => lines2 k.getString
theorem push_end {h₀ g h1 h' : Heap} {L L' x t : Addr} {o tup ob : Obj} {news : List (Addr × Obj)} (N0 : News g L' h1 ((t, tup) :: news)) (hx : (x, ob) ∈ news) (hne : tup ≠ ob) (N : News h₀ L h' (updL x o ((t, tup) :: news))) : News h₀ L h' ((t, tup) :: updL x o news) := by
  have h : t ≠ x := news_ne N0 (.head _) (.tail _ hx) hne
  have e : updL x o ((t, tup) :: news) = (t, tup) :: updL x o news := by
    show (if t = x then (x, o) else (t, tup)) :: updL x o news = _
    rw [if_neg h]
  rw [e] at N
  exact N
local macro_rules | `(tactic| walk_at "call ref") => oneOf [line `bound_pop "aaammsi0i_" [`h', `F', `N'] (sp := [`(tactic| exact ⟨_, by k_is, rfl⟩)]), line `bound_len "amm_"]
set_option maxHeartbeats 8000000 in
theorem acc_new1 {w : World} {dp un : Nat} {gd : Option (List Code)} {cn : Str} {cs : Scope} {a : Addr} {ccd : Value} {cl : List (Str × Addr)} {outer : List Env} {A₀ : Around} {base h₀ : Heap} {L : Addr} {m : Str → Option Value} {s : Shared} {Q E : Value → Shared → Prop}
   {pg : Program} {ls : List Str} {mean : ExcName → Option Value} {mg mb : Str → Option Value} {news : List (Addr × Obj)} {mi : Int} {ti : Tok}
   (B : Below A₀ base outer h₀) (F : Fr h₀ L s.heap m) (X : (Mine.hd.heap_39 w.params).In h₀) (N : News h₀ L s.heap news)
   (T : Top pg ls mean mg mb h₀) (hk : cs.kind = .function) (hd : dp + 3 < recursionLimit) (hu : un + 64 < cLine)
   (hret : ∀ x dx t h' tk', Fr h₀ L h' m → News h₀ L h' ((x, accObj dx [] 0) :: (dx, dictOf [⟨PyData.keyHash w.params (Str.ofString "_initial_size"), .str (Str.ofString "_initial_size") t, .int mi ti⟩] 1) :: news) → (∀ p ∈ news, p.1 < dx) → dx < x → Q (.ref x) { s with heap := h', toks := tk' }) :
   wpAny (model PySem.Challenge.pw_rs0046_01 w) (ktrTop dp un gd cn cs L a ccd cl outer) (call (.ref 143) [.int mi ti]) Q E s := by
  refine call_acc (K := Mine.hd.heap_39 w.params) F X N (by k_dflt kernel_rfl) (fI := 80) (by k_is) (by k_is) (listNew_args1 _) ?_
  intro x dx h' F' N' l1 l2
  have l1' := l1
  have l2' := l2
  replace l1 := allLt_of l1
  k_lt2 l2
  k_dflt (walk_at "enter super")
  refine ks_wpAt_execs_cons ?_
  refine wpAt_of_wpAny ?_
  walk1
  walk1
  walk1
  walk1
  dsimp only
  refine ks_wpAt_execs_cons ?_
  refine ks_wpAt_Expr_any ?_
  refine ks_wpAt_MethodCall ?_
  k_steps
  rename News _ _ _ _ => N9
  exact hret x dx _ _ _ (by assumption) (fun p hp => N9 p (.tail _ (.tail _ hp))) l1' l2'

set_option maxHeartbeats 8000000 in
theorem acc_new0 {w : World} {dp un : Nat} {gd : Option (List Code)} {cn : Str} {cs : Scope} {a : Addr} {ccd : Value} {cl : List (Str × Addr)} {outer : List Env} {A₀ : Around} {base h₀ : Heap} {L : Addr} {m : Str → Option Value} {s : Shared} {Q E : Value → Shared → Prop}
   {pg : Program} {ls : List Str} {mean : ExcName → Option Value} {mg mb : Str → Option Value} {news : List (Addr × Obj)}
   (B : Below A₀ base outer h₀) (F : Fr h₀ L s.heap m) (X : (Mine.hd.heap_39 w.params).In h₀) (N : News h₀ L s.heap news)
   (T : Top pg ls mean mg mb h₀) (hk : cs.kind = .function) (hd : dp + 3 < recursionLimit)
   (hret : ∀ x dx t ti h' tk', Fr h₀ L h' m → News h₀ L h' ((x, accObj dx [] 0) :: (dx, dictOf [⟨PyData.keyHash w.params (Str.ofString "_initial_size"), .str (Str.ofString "_initial_size") t, .int 0 ti⟩] 1) :: news) → (∀ p ∈ news, p.1 < dx) → dx < x → Q (.ref x) { s with heap := h', toks := tk' }) :
   wpAny (model PySem.Challenge.pw_rs0046_01 w) (ktrTop dp un gd cn cs L a ccd cl outer) (call (.ref 143) []) Q E s := by
  refine call_acc (K := Mine.hd.heap_39 w.params) F X N (by k_dflt kernel_rfl) (fI := 80) (by k_is) (by k_is) listNew_args0 ?_
  intro x dx h' F' N' l1 l2
  have l1' := l1
  have l2' := l2
  replace l1 := allLt_of l1
  k_lt2 l2
  k_dflt (walk_at "enter super")
  refine ks_wpAt_execs_cons ?_
  refine wpAt_of_wpAny ?_
  walk1
  walk1
  walk1
  walk1
  dsimp only
  refine ks_wpAt_execs_cons ?_
  refine ks_wpAt_Expr_any ?_
  refine ks_wpAt_MethodCall ?_
  k_steps
  rename News _ _ _ _ => N9
  exact hret x dx _ _ _ _ (by assumption) (fun p hp => N9 p (.tail _ (.tail _ hp))) l1' l2'


set_option maxHeartbeats 8000000 in
theorem push_c {w : World} {dp un : Nat} {gd : Option (List Code)} {cn : Str} {cs : Scope} {a : Addr} {ccd : Value} {cl : List (Str × Addr)} {outer : List Env} {A₀ : Around} {base h₀ : Heap} {L : Addr} {m : Str → Option Value} {s : Shared} {Q E : Value → Shared → Prop}
   {pg : Program} {ls : List Str} {mean : ExcName → Option Value} {mg mb : Str → Option Value} {news : List (Addr × Obj)} {x d : Addr} {vs : List Value} {k : Nat} {es : List DictEntry} {n : Nat} {f z : Str} {tf tz : Tok}
   (B : Below A₀ base outer h₀) (F : Fr h₀ L s.heap m) (X : (Mine.hd.heap_39 w.params).In h₀) (N : News h₀ L s.heap news)
   (T : Top pg ls mean mg mb h₀) (hk : cs.kind = .function) (hd : dp + 3 < recursionLimit)
   (hx : (x, accObj d vs k) ∈ news) (hdx : (d, dictOf es n) ∈ news) (hl : getL (Str.ofString "append") es = some none) (hsz : vs.length < 1000)
   (hret : ∀ t h' tk', Fr h₀ L h' m → News h₀ L h' ((t, { cls := .type "tuple", data := .seq #[.str f tf, .str z tz] }) :: updL x (accObj d (vs ++ [.ref t]) (k + 1)) news) → (∀ p ∈ news, p.1 < t) → Q .none { s with heap := h', toks := tk' }) :
   wpAny (model PySem.Challenge.pw_rs0046_01 w) (ktrTop dp un gd cn cs L a ccd cl outer) (call (.ref 87) [.ref x, .str f tf, .str z tz]) Q E s := by
  refine wpAny_call ?_
  k_dflt cell_enter
  k_steps
  rename News _ _ _ (updL _ _ _) => N9
  exact hret _ _ _ (by assumption) (push_end (by assumption) hx (by intro e; cases e) N9) (by assumption)

set_option maxHeartbeats 8000000 in
theorem count_c {w : World} {dp un : Nat} {gd : Option (List Code)} {cn : Str} {cs : Scope} {a : Addr} {ccd : Value} {cl : List (Str × Addr)} {outer : List Env} {A₀ : Around} {base h₀ : Heap} {L : Addr} {m : Str → Option Value} {s : Shared} {Q E : Value → Shared → Prop}
   {pg : Program} {ls : List Str} {mean : ExcName → Option Value} {mg mb : Str → Option Value} {news : List (Addr × Obj)} {x d : Addr} {vs : List Value} {k : Nat} {es : List DictEntry} {n : Nat}
   (B : Below A₀ base outer h₀) (F : Fr h₀ L s.heap m) (X : (Mine.hd.heap_39 w.params).In h₀) (N : News h₀ L s.heap news)
   (T : Top pg ls mean mg mb h₀) (hk : cs.kind = .function) (hd : dp + 3 < recursionLimit)
   (hx : (x, accObj d vs k) ∈ news) (hdx : (d, dictOf es n) ∈ news)
   (hret : ∀ t h' tk', Fr h₀ L h' m → News h₀ L h' news → Q (.int vs.length t) { s with heap := h', toks := tk' }) :
   wpAny (model PySem.Challenge.pw_rs0046_01 w) (ktrTop dp un gd cn cs L a ccd cl outer) (call (.ref 140) [.ref x]) Q E s := by
  refine wpAny_call ?_
  k_dflt (walk_at "enter super")
  refine ks_wpAt_execs_cons ?_
  refine ks_wpAt_Return_some ?_
  refine ks_wpAt_MethodCall ?_
  k_steps
  rename News _ _ _ _ => N9
  exact hret _ _ _ (by assumption) (fun p hp => N9 p (by simp only [List.mem_cons]; exact .inr (.inr hp)))

local macro_rules | `(tactic| walk_at "call ref") => line `count_c "aaaaarwmm_" [`t', `h', `tk', `F', `N']
set_option maxHeartbeats 8000000 in
theorem pop_c {w : World} {dp un : Nat} {gd : Option (List Code)} {cn : Str} {cs : Scope} {a : Addr} {ccd : Value} {cl : List (Str × Addr)} {outer : List Env} {A₀ : Around} {base h₀ : Heap} {L : Addr} {m : Str → Option Value} {s : Shared} {Q E : Value → Shared → Prop}
   {pg : Program} {ls : List Str} {mean : ExcName → Option Value} {mg mb : Str → Option Value} {news : List (Addr × Obj)} {x d : Addr} {vs : List Value} {y : Value} {k : Nat} {es : List DictEntry} {n : Nat}
   (B : Below A₀ base outer h₀) (F : Fr h₀ L s.heap m) (X : (Mine.hd.heap_39 w.params).In h₀) (N : News h₀ L s.heap news)
   (T : Top pg ls mean mg mb h₀) (hk : cs.kind = .function) (hd : dp + 4 < recursionLimit)
   (hx : (x, accObj d (vs ++ [y]) k) ∈ news) (hdx : (d, dictOf es n) ∈ news) (hl : getL (Str.ofString "part_count") es = some none) (hsz : vs.length < 1000)
   (hret : ∀ h' tk', Fr h₀ L h' m → News h₀ L h' (updL x (accObj d vs (k + 1)) news) → Q y { s with heap := h', toks := tk' }) :
   wpAny (model PySem.Challenge.pw_rs0046_01 w) (ktrTop dp un gd cn cs L a ccd cl outer) (call (.ref 103) [.ref x]) Q E s := by
  refine wpAny_call ?_
  k_dflt (walk_at "enter super")
  refine ks_wpAt_execs_cons ?_
  refine ks_wpAt_If ?_
  refine wpAt_of_wpAny ?_
  walk1
  walk1
  walk1
  walk1
  walk1
  walk1
  dsimp only
  walk1
  walk1
  walk1
  refine ite_neg (by rw [beq_iff_eq, List.length_append, List.length_singleton]; omega) ?_
  refine wpAt_of_wpAny ?_
  walk1
  k_steps
  rename News _ _ _ (updL _ _ _) => N9
  exact hret _ _ (by assumption) (fun p hp => N9 p (by
    unfold updL at hp ⊢
    simp only [List.map_cons, List.mem_cons]
    exact .inr (.inr hp)))
end
section
open PySem PySem.W PyProof.Rows
open PySem.Spec PySem.Calls
set_option maxRecDepth 100000
set_option pp.deepTerms false
set_option pp.maxSteps 10000
theorem keeps_mk {u : Shared} {h' : Heap} {tk : Nat} (hk : ∀ b o, u.heap.get? b = some o → h'.get? b = some o) : Keeps u { u with heap := h', toks := tk } := ⟨h', tk, rfl, hk⟩
theorem args_sum2 (a b : Value) : argsOk "sum" ⟨[a, b], []⟩ := by unfold argsOk; kernel_rfl
def valS (mi : Int) (val : Nat → Int) : Nat → Int
  | 0 => mi
  | j + 1 => val j
theorem preSum_valS (mi : Int) (val : Nat → Int) (n : Nat) : preSum (valS mi val) (n + 1) = mi + preSum val n := by
  induction n with
  | zero => simp [preSum, valS]
  | succ n ih => rw [preSum, ih, preSum, valS]; omega
section
variable {prog : Program} {w : World} {A : Around} {E : Value → Shared → Prop} {s : Shared} {I : Addr} {fp wr : List Addr} {G : Array GenState → Array GenState → Prop} {n : Nat} {P : Nat → Value → Prop} {St : Nat → Shared → Prop}
theorem walksS_shift (W : WalksS prog w A I fp wr G n P St) : WalksS prog w A I fp wr G (n + 1) (fun i v => ∃ j, i = j + 1 ∧ P j v) (fun i s => ∃ j, i = j + 1 ∧ St j s) where
  sub := W.sub
  grefl := W.grefl
  gtrans := W.gtrans
  frame := fun i s h' tk st ht hk => let ⟨j, e, st⟩ := st; ⟨j, e, W.frame j s h' tk st ht hk⟩
  item := fun i s Q E hi st hQ => by
    obtain ⟨j, rfl, st⟩ := st
    exact W.item j s Q E (by omega) st fun v s' hp st' hm => hQ v s' ⟨j, rfl, hp⟩ ⟨j + 1, rfl, st'⟩ hm
  done := fun s Q E st hQ => by
    obtain ⟨j, e, st⟩ := st
    have : j = n := by omega
    subst this
    exact W.done s Q E st hQ
  self := fun i s Q E st hQ => let ⟨j, _, st⟩ := st; W.self j s Q E st hQ

theorem sum_start {x : Value} {mi : Int} {ti : Tok} {Q : Value → Shared → Prop} 
    (h : wpAny (model prog w) A.in1 (pyIter x) (fun it s₂ => ∃ I fp wr G n P St val, it = .ref I ∧ WalksS prog w A.in1 I fp wr G n P St ∧ St 0 s₂ ∧ (∀ b ∈ fp, b < s₂.heap.objs.size) ∧
      (∀ i v, P i v → ∃ t, v = .int (val i) t) ∧
      ∀ s' t', Moved wr G s₂ s' → Q (.int (mi + preSum val n) t') s') E s) :
    wpAny (model prog w) A (call (.builtin "sum") [x, .int mi ti]) Q E s := by
  refine call_function_tree F.kind_sum F.plain_sum F.entry_sum (args_sum2 _ _) ?_
  unfold Builtin.«sum»
  simp only [List.length_cons, List.length_nil]
  rw [if_neg (by decide)]
  refine wpAny_bind (wpAny_of_eq (show Builtin.Builtins.bindParams "sum" ["start"] 0 ⟨[.int mi ti], []⟩ = pure [some (.int mi ti)] from rfl) ?_)
  refine wpAny_bind (wpAny_mono h (fun it s₂ h₂ => ?_) fun _ _ e => e)
  obtain ⟨I, fp, wr, G, n, P, St, val, rfl, W, hst, hfp, hval, hQ⟩ := h₂
  have hSf : s₂.heap.objs.size ∉ fp := fun hm => Nat.lt_irrefl _ (hfp _ hm)
  have e1 : preSum (valS mi val) 1 = mi := by simp [preSum, valS]
  have fin : ∀ (st : Int) (t : Tok) (tk : Nat), (st = 0 ∨ st = 2) → s₂.toks ≤ tk → codeAny (model prog w) A (.builtin "sum.loop" ⟨[.ref I, .ref s₂.heap.objs.size, rawInt st, rawInt 0], []⟩) (fun r s' => match r with | .ok (.ret v) => Q v s' | .ok _ => False | .error e => E e s')
      { s₂ with heap := s₂.heap.push { cls := .type "list", dict := none, data := .seq #[.int mi t] 0, slots := #[] }, toks := tk } := by
    intro st t tk hst2 htk
    refine codeAny_sum_loopAnyS (walksS_shift W) (valS mi val) (fun i v hp => by obtain ⟨j, rfl, hp⟩ := hp; exact hval j v hp) s₂.heap.objs.size hSf n 1 _ t 0 st hst2 (by omega) (by omega)
      ⟨0, rfl, W.frame 0 s₂ _ _ hst htk (fun b _ o e => Heap.get?_push_of_some _ e)⟩ (by rw [e1]; exact Heap.get?_push_size _ rfl) fun s' t' hm => ?_
    rw [preSum_valS]
    exact hQ s' t' (hm.drop_new htk)
  dsimp only
  split
  · refine wpAny_bind (wpAny_rule ?_)
    refine wpAny_bind (wpAny_mkInt ?_)
    refine wpAny_bind (wpAny_pure ?_)
    simp only [List.forIn_cons, List.forIn_nil]
    refine wpAny_bind (wpAny_bind (wpAny_bind (wpAny_isInstance (T := "int") (b := false) (typeIs_int _ _ _) PySem.sub_int_str ?_)))
    simp only [Bool.false_eq_true, if_false]
    refine wpAny_pure (wpAny_bind (wpAny_bind (wpAny_isInstance (T := "int") (b := false) (typeIs_int _ _ _) PySem.sub_int_bytes ?_)))
    simp only [Bool.false_eq_true, if_false]
    refine wpAny_pure (wpAny_bind (wpAny_bind (wpAny_isInstance (T := "int") (b := false) (typeIs_int _ _ _) PySem.sub_int_bytearray ?_)))
    simp only [Bool.false_eq_true, if_false]
    refine wpAny_pure (wpAny_pure ?_)
    refine wpAny_bind (wpAny_newObj_type ?_)
    exact wpAny_pure ⟨plainId_quiet F.plain_sum_loop _, fin 0 _ _ (.inl rfl) (Nat.le_succ _)⟩
  · refine wpAny_bind (wpAny_pure ?_)
    simp only [List.forIn_cons, List.forIn_nil]
    refine wpAny_bind (wpAny_bind (wpAny_bind (wpAny_isInstance (T := "int") (b := false) (typeIs_int _ _ _) PySem.sub_int_str ?_)))
    simp only [Bool.false_eq_true, if_false]
    refine wpAny_pure (wpAny_bind (wpAny_bind (wpAny_isInstance (T := "int") (b := false) (typeIs_int _ _ _) PySem.sub_int_bytes ?_)))
    simp only [Bool.false_eq_true, if_false]
    refine wpAny_pure (wpAny_bind (wpAny_bind (wpAny_isInstance (T := "int") (b := false) (typeIs_int _ _ _) PySem.sub_int_bytearray ?_)))
    simp only [Bool.false_eq_true, if_false]
    refine wpAny_pure (wpAny_pure ?_)
    refine wpAny_bind (wpAny_newObj_type ?_)
    exact wpAny_pure ⟨plainId_quiet F.plain_sum_loop _, fin 2 _ _ (.inr rfl) (Nat.le_refl _)⟩

/-- what a consumed generator leaves -/
structure Sm (s s' : Shared) : Prop where
  bare : AllBare s.gens → AllBare s'.gens
  drawn : s'.drawn = s.drawn
  os : s'.os = s.os
theorem Sm.refl (s : Shared) : Sm s s := ⟨id, rfl, rfl⟩
theorem Sm.trans {a b c : Shared} (x : Sm a b) (y : Sm b c) : Sm a c := ⟨y.bare ∘ x.bare, y.drawn.trans x.drawn, y.os.trans x.os⟩
theorem Sm.same {a : Shared} {h : Heap} {tk : Nat} : Sm a { a with heap := h, toks := tk } := ⟨id, rfl, rfl⟩

variable {a Kb : Addr} {F : Nat → Value → Prop} {Q : Value → Shared → Prop}
theorem sum_gen {mi : Int} {ti : Tok} (X : Gen prog w A Kb a n F s) (val : Nat → Int) (hval : ∀ j v, F j v → ∃ t, v = .int (val j) t)
    (hQ : ∀ s' t', Sm s s' → (∀ b o, b ≤ Kb → s.heap.get? b = some o → s'.heap.get? b = some o) → Q (.int (mi + preSum val n) t') s') : wpAny (model prog w) A (call (.builtin "sum") [.ref a, .int mi ti]) Q E s := by
  obtain ⟨fp, wr, g, St, W, hst, _, _, hfp, hwr⟩ := X
  have W := W.in4_1
  exact sum_start (W.self 0 _ _ _ hst ⟨a, _, _, _, _, _, _, val, rfl, W, hst, hfp, hval, fun s' t' hm => hQ s' t' ⟨fun G => G.movedS hm, hm.drawn, hm.os⟩ fun b o hb e => hm.heap b o (fun hmem => Nat.lt_irrefl _ (Nat.lt_of_lt_of_le (hwr b hmem) hb)) e⟩)

theorem join_gen {sep : Str} {t : Tok} (X : Gen prog w A Kb a n F s) (tx : Nat → Str) (htx : ∀ j v, F j v → ∃ u, v = .str (tx j) u)
    (hok : JoinOk sep ((List.range n).map tx) = true)
    (hQ : ∀ s' t', Sm s s' → (∀ b o, b ≤ Kb → s.heap.get? b = some o → s'.heap.get? b = some o) → Q (.str (Txt.join sep ((List.range n).map tx)) t') s')
    (hsz : n ≤ sizeLine) : wpAny (model prog w) A (call (.builtin "str.join") [.str sep t, .ref a]) Q E s := by
  obtain ⟨fp, wr, g, St, W, hst, hT, ha, hfp, hwr⟩ := X
  have W := W.in4_2
  refine SC.joinGen W hT hst hfp ha (fun j v hv => let ⟨u, e⟩ := htx j v hv; ⟨_, u, e⟩) (fun s' lt hm hacc => ?_) hsz
  have hl : lt.map (·.1) = (List.range n).map tx := by
    apply List.ext_getElem?
    intro j
    have hsz : lt.length = n := by simpa [strValues] using hacc.1
    by_cases hj : j < n
    · have hj' : j < lt.length := hsz ▸ hj
      obtain ⟨u, hv⟩ := htx j _ (hacc.2 j (.str lt[j].1 lt[j].2) (by simp [strValues, List.getElem?_eq_getElem hj']))
      injection hv with h1 _
      simp [List.getElem?_eq_getElem hj', hj, h1]
    · rw [List.getElem?_eq_none (by simpa [hsz] using Nat.le_of_not_lt hj), List.getElem?_eq_none (by simpa using Nat.le_of_not_lt hj)]
  rw [hl]
  have k1 : ∀ b o, b ≤ Kb → s.heap.get? b = some o → s'.heap.get? b = some o := fun b o hb e => hm.heap b o (fun hmem => Nat.lt_irrefl _ (Nat.lt_of_lt_of_le (hwr b hmem) hb)) e
  have g1 : AllBare s.gens → AllBare s'.gens := fun G => G.movedS hm
  have o1 := hm.os
  have d1 := hm.drawn
  exact ⟨hok, fun t' k => hQ { s' with toks := k } t' ⟨g1, d1, o1⟩ k1⟩
end
end
section
open PySem PySem.W PyProof.Rows
open PySem.Spec PySem.Calls
set_option maxRecDepth 100000
set_option pp.deepTerms false
set_option pp.maxSteps 10000
theorem fillC3 : PySem.Challenge.rw_rs0046_01 = PySem.Challenge.rw_rs0046_01 ∧ Mine.hd.heap_39 = Mine.hd.heap_39 := by
  w_top off
  k_fill
  exact ⟨rfl, rfl⟩
local macro_rules | `(tactic| k_mem) => `(tactic| assumption)
local macro_rules | `(tactic| k_inst) => `(tactic| (refine' inst_acc ?N ?h1 ?h2; (case N => k_asm); (case h1 => k_mem); (case h2 => k_mem)))
local macro_rules | `(tactic| walk_at $k:str) => lines2 k.getString
theorem fr_off {h₀ h h' : Heap} {L P : Addr} {o : Obj} {m : Str → Option Value} {news : List (Addr × Obj)} (F : Fr h₀ L h m) (N : News h₀ L h news) (hP : (P, o) ∈ news) (hk : ∀ b o, b ≠ P → h.get? b = some o → h'.get? b = some o) : Fr h₀ L h' m :=
  ⟨F.ns.at fun o e => hk L o (fun e' => (N _ hP).2.1 e'.symm) e, fun b o e => hk b o (fun e' => by rw [e', (N _ hP).2.2] at e; cases e) (F.keep b o e), F.above⟩
theorem news_off {h₀ h h' : Heap} {L P : Addr} {o : Obj} {news : List (Addr × Obj)} (N : News h₀ L h news) (hk : ∀ b o, b ≠ P → h.get? b = some o → h'.get? b = some o) (ho : h'.get? P = some o) : News h₀ L h' (updL P o news) := by
  intro p hp
  obtain ⟨q, hq, e⟩ := List.mem_map.mp hp
  have hN := N q hq
  by_cases h : q.1 = P
  · rw [if_pos h] at e
    subst e
    exact ⟨ho, h ▸ hN.2.1, h ▸ hN.2.2⟩
  · rw [if_neg h] at e
    subst e
    exact ⟨hk _ _ h hN.1, hN.2⟩
theorem news_keep {h₀ h h' : Heap} {L : Addr} {news : List (Addr × Obj)} (N : News h₀ L h news) (hk : ∀ p ∈ news, h.get? p.1 = some p.2 → h'.get? p.1 = some p.2) : News h₀ L h' news :=
  fun p hp => ⟨hk p hp (N p hp).1, (N p hp).2⟩
/-- the items of an accumulator: pairs of nothing and a text -/
def TupsAre (news : List (Addr × Obj)) (vs : List Value) (ps : List Str) : Prop := vs.length = ps.length ∧ ∃ (Ts : Nat → Addr) (t1 t2 : Nat → Tok), ∀ j, j < vs.length → vs[j]? = some (.ref (Ts j)) ∧ (Ts j, tupObj (.str (Str.ofString "") (t1 j)) (.str (ps.getD j (Str.ofString "")) (t2 j))) ∈ news
theorem getD_mem_le {ps : List Str} (h : ∀ p ∈ ps, p.length ≤ 100) (j : Nat) : (ps.getD j (Str.ofString "")).length ≤ 100 := by
  rw [List.getD_eq_getElem?_getD]
  cases e : ps[j]? with
  | none => show (Str.ofString "").length ≤ 100; decide
  | some p => exact h p (List.mem_of_getElem? e)
theorem preSum_len (ps : List Str) : ∀ n, n ≤ ps.length → preSum (fun j => ((Str.ofString "").length : Int) + ((ps.getD j (Str.ofString "")).length : Int)) n = (((ps.take n).map (·.length)).sum : Nat)
  | 0, _ => by simp [preSum]
  | n + 1, h => by
    have h0 : (Str.ofString "").length = 0 := by decide
    rw [preSum, preSum_len ps n (by omega), h0, List.getD_eq_getElem?_getD, List.getElem?_eq_getElem (by omega : n < ps.length), List.take_add_one, List.getElem?_eq_getElem (by omega : n < ps.length), List.map_append, List.sum_append]
    simp only [Option.getD_some, Option.toList_some, List.map_cons, List.map_nil, List.sum_cons, List.sum_nil]
    omega
theorem gen_toks {prog : Program} {w : World} {A : Around} {Kb a : Addr} {n tk : Nat} {Fv : Nat → Value → Prop} {s : Shared} (X : Gen prog w A Kb a n Fv s) (h : s.toks ≤ tk) : Gen prog w A Kb a n Fv { s with toks := tk } := by
  obtain ⟨fp, wr, g, St, W, hst, h1, h2, hfp, hwr⟩ := X
  exact ⟨fp, wr, g, St, W, W.frame 0 s s.heap tk hst h (fun _ _ _ e => e), h1, h2, hfp, hwr⟩
theorem fr_below {g h h' : Heap} {L : Addr} {m : Str → Option Value} {Kb : Nat} (F : Fr g L h m) (hL : L ≤ Kb) (hk : ∀ b o, b ≤ Kb → h.get? b = some o → h'.get? b = some o) : Fr g L h' m :=
  ⟨F.ns.at fun o e => hk L o hL e, fun b o e => hk b o (Nat.le_trans (Nat.le_of_lt (Nat.lt_of_lt_of_le (Heap.lt_size e) F.above)) hL) (F.keep b o e), F.above⟩
set_option maxHeartbeats 8000000 in
theorem len_c {w : World} {dp un : Nat} {gd : Option (List Code)} {cn : Str} {cs : Scope} {a : Addr} {ccd : Value} {cl : List (Str × Addr)} {outer : List Env} {A₀ : Around} {base h₀ : Heap} {L : Addr} {m : Str → Option Value} {s : Shared} {Q E : Value → Shared → Prop}
   {pg : Program} {ls : List Str} {mean : ExcName → Option Value} {mg mb : Str → Option Value} {news : List (Addr × Obj)} {x d : Addr} {vs : List Value} {k : Nat} {es : List DictEntry} {n : Nat} {mi : Int} {ti : Tok} {ps : Array Value} {parts : List Str}
   (B : Below A₀ base outer h₀) (F : Fr h₀ L s.heap m) (X : (Mine.hd.heap_39 w.params).In h₀) (N : News h₀ L s.heap news)
   (T : Top pg ls mean mg mb h₀) (hk : cs.kind = .function) (hd : dp + 3 < recursionLimit) (hu : un + 64 < cLine)
   (hx : (x, accObj d vs k) ∈ news) (hdx : (d, dictOf es n) ∈ news) (hl : getL (Str.ofString "_initial_size") es = some (some (.int mi ti)))
   (hP : (105, tabObj ps) ∈ news) (hps : TriplesOk ps.toList) (hvs : TupsAre news vs parts) (hlen : ∀ p ∈ parts, p.length ≤ 100)
   (hret : ∀ t s' ps', Sm s s' → Grown ps ps' → Fr h₀ L s'.heap m → News h₀ L s'.heap (updL 105 (tabObj ps') news) → Q (.int (mi + ((parts.map (·.length)).sum : Nat)) t) s') :
   wpAny (model PySem.Challenge.pw_rs0046_01 w) (ktrTop dp un gd cn cs L a ccd cl outer) (call (.ref 110) [.ref x]) Q E s := by
  refine wpAny_call ?_
  k_dflt cell_enter
  k_steps
  rename (Fr _ _ _ fun _ => _) => F1
  rename News _ _ _ _ => N1
  rename Frag.In _ _ => X1
  rename Top _ _ _ _ _ _ => T1
  rename_i g1 L1 h1 FG1 BB1
  obtain ⟨hl0, Ts, t1, t2, hvs⟩ := hvs
  have hmg : mg (Str.ofString "len") = none := mg_none_of X1 T1.g (by k_is)
  have hmb : mb (Str.ofString "len") = some (.builtin "len") := (T1.builtins _ (by decide)).trans boot_len
  refine gen_acc (K := Mine.hd.heap_39 w.params) (c := 109) (P := 105) (x := x) (Ts := Ts) (va := fun j => .str (Str.ofString "") (t1 j)) (vb := fun j => .str (parts.getD j (Str.ofString "")) (t2 j)) (Fv := fun j v => ∃ t, v = .int (((Str.ofString "").length : Int) + ((parts.getD j (Str.ofString "")).length : Int)) t)
    F1 X1 N1 T1 hx hP hps (by k_dflt kernel_rfl) rfl rfl (by k_is) (by k_is) hvs rfl rfl rfl (by decide) (by decide) (by decide) (by decide) (by decide) rfl (by ktr_room) ?iter (fun _ => rfl) ?elt ?rest
  case iter =>
    intro Q' h
    exact wpAny_Name (wpAny_loadName_local rfl rfl F1.ns rfl h) (by decide)
  case elt =>
    intro code C A' E' i u m₂ hA hD hU hi hn h1 h2 hbase
    have hg := T1.g.keeps hbase
    have hb := T1.b.keeps hbase
    have hz := getD_mem_le hlen i
    have h0 : (Str.ofString "").length ≤ 100 := by decide
    refine wpAny_BinOp ?_
    refine wpAny_Call_NameR (wpAny_Name (ks_loadName_global rfl rfl (loadGlobal_builtin hg hmg hb hmb ?_)) (by decide))
    refine PyProof.Rows.callWith_builtin1 (spliced_more (wpAny_Name (wpAny_loadName_local rfl rfl hn h1 (spliced_none ?_)) (by decide)))
    refine P.len_str (by omega) ?_
    refine wpAny_Call_NameR (wpAny_Name (ks_loadName_global rfl rfl (loadGlobal_builtin (s := { u with toks := _ }) hg hmg hb hmb ?_)) (by decide))
    refine PyProof.Rows.callWith_builtin1 (spliced_more (wpAny_Name (wpAny_loadName_local (s := { u with toks := _ }) rfl rfl hn h2 (spliced_none ?_)) (by decide)))
    refine P.len_str (by omega) ?_
    refine wpAny_add_int ?_
    exact ⟨⟨_, rfl⟩, keeps_mk fun _ _ e => e⟩
  case rest =>
    intro a5 s5 ps' hk5 hP5 hgr hb5 hd5 ho5 X5
    have F5 := fr_off F1 N1 hP hk5
    have N5 := news_off N1 hk5 hP5
    have hx5 : (x, accObj d vs k) ∈ updL 105 (tabObj ps') news := mem_updL_ne hx (news_ne N1 hx hP (by intro e; cases e))
    have hdx5 : (d, dictOf es n) ∈ updL 105 (tabObj ps') news := mem_updL_ne hdx (news_ne N1 hdx hP (by intro e; cases e))
    k_steps
    refine sum_gen (gen_toks X5 (Nat.le_succ _)) _ (fun j v h => h) fun s6 t6 hsm hk6 => ?_
    have hlt : ∀ p ∈ updL 105 (tabObj ps') news, p.1 ≤ h1.objs.size - 1 := by
      intro p hp
      obtain ⟨q, hq, e⟩ := List.mem_map.mp hp
      have hq1 := ltN (Heap.lt_size (N1 q hq).1)
      have : p.1 = q.1 := by
        rw [← e]; split
        · rename_i e'; exact e'.symm
        · rfl
      rw [this]
      exact Nat.le_sub_one_of_lt hq1
    have F6 := fr_below F5 (Nat.le_sub_one_of_lt F1.ns.lt) hk6
    have N6 := news_keep N5 fun p hp e => hk6 _ _ (hlt p hp) e
    have e6 := preSum_len parts vs.length (by omega)
    rw [hl0, List.take_length] at e6
    rw [← hl0] at e6
    rw [e6]
    exact leaveK_ F6 N6 fun kF kN => hret _ _ _ (Sm.trans ⟨hb5, hd5, ho5⟩ (Sm.trans Sm.same hsm)) hgr kF kN

/-- texts put end to end -/
def cat (ps : List Str) : Str := ⟨(ps.flatMap (·.cps.toList)).toArray⟩
theorem es_cps : (Str.ofString "").cps = #[] := by decide
theorem join_cat : ∀ ps : List Str, Txt.join (Str.ofString "") ps = cat ps := by
  intro ps
  show Builtin.Str.glued (Str.ofString "") ps = cat ps
  rw [StrLaws.glued_eq_join]
  induction ps with
  | nil => rfl
  | cons p r ih =>
    cases r with
    | nil => simp [Str.join, cat]
    | cons q r =>
      show p ++ Str.ofString "" ++ Str.join _ (q :: r) = _
      rw [ih]
      show Str.mk ((p.cps ++ (Str.ofString "").cps) ++ _) = _
      rw [es_cps]
      simp [cat]
theorem cat_pair (p : Str) : cat [Str.ofString "", p] = p := by
  simp [cat, es_cps]
theorem range_getD (ps : List Str) : (List.range ps.length).map (fun j => ps.getD j (Str.ofString "")) = ps := by
  apply List.ext_getElem?
  intro j
  by_cases h : j < ps.length
  · simp [h]
  · simp [h]
set_option maxHeartbeats 8000000 in
theorem str_c {w : World} {dp un : Nat} {gd : Option (List Code)} {cn : Str} {cs : Scope} {a : Addr} {ccd : Value} {cl : List (Str × Addr)} {outer : List Env} {A₀ : Around} {base h₀ : Heap} {L : Addr} {m : Str → Option Value} {s : Shared} {Q E : Value → Shared → Prop}
   {pg : Program} {ls : List Str} {mean : ExcName → Option Value} {mg mb : Str → Option Value} {news : List (Addr × Obj)} {x d : Addr} {vs : List Value} {k : Nat} {es : List DictEntry} {n : Nat} {ps : Array Value} {parts : List Str}
   (B : Below A₀ base outer h₀) (F : Fr h₀ L s.heap m) (X : (Mine.hd.heap_39 w.params).In h₀) (N : News h₀ L s.heap news)
   (T : Top pg ls mean mg mb h₀) (hk : cs.kind = .function) (hd : dp + 3 < recursionLimit)
   (hx : (x, accObj d vs k) ∈ news) (hdx : (d, dictOf es n) ∈ news)
   (hP : (112, tabObj ps) ∈ news) (hps : TriplesOk ps.toList) (hvs : TupsAre news vs parts) (hlen : ∀ p ∈ parts, p.length ≤ 100) (hall : (parts.map (·.length)).sum ≤ 1000) (hn1 : parts.length ≤ 1000)
   (hret : ∀ t s' ps', Sm s s' → Grown ps ps' → Fr h₀ L s'.heap m → News h₀ L s'.heap (updL 112 (tabObj ps') news) → Q (.str (cat parts) t) s') :
   wpAny (model PySem.Challenge.pw_rs0046_01 w) (ktrTop dp un gd cn cs L a ccd cl outer) (call (.ref 117) [.ref x]) Q E s := by
  refine wpAny_call ?_
  k_dflt cell_enter
  k_steps
  rename (Fr _ _ _ fun _ => _) => F1
  rename News _ _ _ _ => N1
  rename Frag.In _ _ => X1
  rename Top _ _ _ _ _ _ => T1
  rename_i g1 L1 h1 FG1 BB1
  obtain ⟨hl0, Ts, t1, t2, hvs⟩ := hvs
  have hmg : mg (Str.ofString "EMPTYSTRING") = some (.str (Str.ofString "") 256) := mg_of X1 T1.g (by k_is)
  refine gen_acc (K := Mine.hd.heap_39 w.params) (c := 116) (P := 112) (x := x) (Ts := Ts) (va := fun j => .str (Str.ofString "") (t1 j)) (vb := fun j => .str (parts.getD j (Str.ofString "")) (t2 j)) (Fv := fun j v => ∃ t, v = .str (parts.getD j (Str.ofString "")) t)
    F1 X1 N1 T1 hx hP hps (by k_dflt kernel_rfl) rfl rfl (by k_is) (by k_is) hvs rfl rfl rfl (by decide) (by decide) (by decide) (by decide) (by decide) rfl (by ktr_room) ?iter (fun _ => rfl) ?elt ?rest
  case iter =>
    intro Q' h
    exact wpAny_Name (wpAny_loadName_local rfl rfl F1.ns rfl h) (by decide)
  case elt =>
    intro code C A' E' i u m₂ hA hD hU hi hn h1 h2 hbase
    have hg := T1.g.keeps hbase
    have hz := getD_mem_le hlen i
    refine MethodCall_ (wpAny_Name (ks_loadName_global rfl rfl (loadGlobal_global hg hmg ?_)) (by decide))
    refine GM.join ?_
    refine callWith_method1 (spliced_more (wpAny_Tuple_spliced ?_))
    refine spliced_more (wpAny_Name (wpAny_loadName_local rfl rfl hn h1 ?_) (by decide))
    refine spliced_more (wpAny_Name (wpAny_loadName_local rfl rfl hn h2 (spliced_none ⟨(by rw [sizeLine_eq]; exact Nat.le_of_ble_eq_true rfl), spliced_none ?_⟩)) (by decide))
    refine join_tuple (ys := [Str.ofString "", parts.getD i (Str.ofString "")]) ⟨_, Heap.get?_push_size _ rfl, rfl, _, rfl⟩ (.cons _ _ (.cons _ _ .nil)) ?_ fun t' k' => ?_
    · have h0 : (Str.ofString "").length = 0 := by decide
      simp only [List.map_cons, List.map_nil, List.sum_cons, List.sum_nil, List.length_cons, List.length_nil, h0]
      omega
    · rw [join_cat, cat_pair]
      exact ⟨⟨_, rfl⟩, keeps_mk fun _ _ e => Heap.get?_push_of_some _ e⟩
  case rest =>
    intro a5 s5 ps' hk5 hP5 hgr hb5 hd5 ho5 X5
    have F5 := fr_off F1 N1 hP hk5
    have N5 := news_off N1 hk5 hP5
    refine spliced_none ?_
    have e6 : (List.range vs.length).map (fun j => parts.getD j (Str.ofString "")) = parts := by rw [hl0]; exact range_getD parts
    refine join_gen X5 (fun j => parts.getD j (Str.ofString "")) (fun j v h => h) ?_ (fun s6 t6 hsm hk6 => ?_) (by rw [sizeLine_eq]; omega)
    · rw [e6]
      refine joinOk_of ?_
      have h0 : (Str.ofString "").length = 0 := by decide
      rw [h0]; omega
    have hlt : ∀ p ∈ updL 112 (tabObj ps') news, p.1 ≤ h1.objs.size - 1 := by
      intro p hp
      obtain ⟨q, hq, e⟩ := List.mem_map.mp hp
      have hq1 := ltN (Heap.lt_size (N1 q hq).1)
      have : p.1 = q.1 := by
        rw [← e]; split
        · rename_i e'; exact e'.symm
        · rfl
      rw [this]
      exact Nat.le_sub_one_of_lt hq1
    have F6 := fr_below F5 (Nat.le_sub_one_of_lt F1.ns.lt) hk6
    have N6 := news_keep N5 fun p hp e => hk6 _ _ (hlt p hp) e
    rw [e6, join_cat]
    exact leaveK_ F6 N6 fun kF kN => hret _ _ _ (Sm.trans ⟨hb5, hd5, ho5⟩ hsm) hgr kF kN
end
section
open PySem PySem.W PyProof.Rows
open PySem.Spec PySem.Calls
set_option maxRecDepth 100000
set_option pp.deepTerms false
set_option pp.maxSteps 10000
theorem fillRs : PySem.Challenge.rw_rs0046_01 = PySem.Challenge.rw_rs0046_01 ∧ Mine.hd.heap_39 = Mine.hd.heap_39 := by
  w_top off
  k_fill
  exact ⟨rfl, rfl⟩
def Upto (y : Addr) (nw nw' : List (Addr × Obj)) : Prop := ∀ p ∈ nw, p.1 ≠ y → p ∈ nw'
theorem upto_updL {y : Addr} {o : Obj} {nw : List (Addr × Obj)} : Upto y nw (updL y o nw) := fun _ hp hne => mem_updL_ne hp hne
theorem upto_cons {y : Addr} {q : Addr × Obj} {o : Obj} {nw : List (Addr × Obj)} : Upto y nw (q :: updL y o nw) := fun _ hp hne => .tail _ (mem_updL_ne hp hne)
def esI (w : World) (t : Tok) (mi : Int) (ti : Tok) : List DictEntry := [⟨PyData.keyHash w.params (Str.ofString "_initial_size"), .str (Str.ofString "_initial_size") t, .int mi ti⟩]
section
variable {w : World} {t ti : Tok} {mi : Int}
theorem esI_append : getL (Str.ofString "append") (esI w t mi ti) = some none := by
  unfold getL esI
  rfl
theorem esI_count : getL (Str.ofString "part_count") (esI w t mi ti) = some none := by
  unfold getL esI
  rfl
theorem esI_size : getL (Str.ofString "_initial_size") (esI w t mi ti) = some (some (.int mi ti)) := by
  unfold getL esI
  rfl
end
def AccIn (nw : List (Addr × Obj)) (x d : Addr) (es : List DictEntry) (parts : List Str) : Prop := ∃ vs k n, (x, accObj d vs k) ∈ nw ∧ (d, dictOf es n) ∈ nw ∧ TupsAre nw vs parts
def TabIn (nw : List (Addr × Obj)) (P : Addr) (p0 : Array Value) : Prop := ∃ ps, (P, tabObj ps) ∈ nw ∧ Grown p0 ps
section
variable {h₀ h : Heap} {L x d y P : Addr} {oy : Obj} {nw nw' : List (Addr × Obj)} {es : List DictEntry} {parts : List Str} {p0 : Array Value} {vs : List Value}
theorem TupsAre.upto (N : News h₀ L h nw) (hy : (y, oy) ∈ nw) (hc : oy.cls ≠ .type "tuple") (U : Upto y nw nw') (H : TupsAre nw vs parts) : TupsAre nw' vs parts := by
  obtain ⟨h1, Ts, t1, t2, H⟩ := H
  exact ⟨h1, Ts, t1, t2, fun j hj => ⟨(H j hj).1, U _ (H j hj).2 (news_ne N (H j hj).2 hy fun e => hc (congrArg Obj.cls e).symm)⟩⟩
theorem TupsAre.mono (U : ∀ p ∈ nw, p ∈ nw') (H : TupsAre nw vs parts) : TupsAre nw' vs parts := by
  obtain ⟨h1, Ts, t1, t2, H⟩ := H
  exact ⟨h1, Ts, t1, t2, fun j hj => ⟨(H j hj).1, U _ (H j hj).2⟩⟩
theorem TupsAre.snoc {T : Addr} {z : Str} {ta tb : Tok} (H : TupsAre nw vs parts) (hT : (T, tupObj (.str (Str.ofString "") ta) (.str z tb)) ∈ nw) : TupsAre nw (vs ++ [.ref T]) (parts ++ [z]) := by
  obtain ⟨h1, Ts, t1, t2, H⟩ := H
  refine ⟨by simp [h1], fun j => if j < vs.length then Ts j else T, fun j => if j < vs.length then t1 j else ta, fun j => if j < vs.length then t2 j else tb, fun j hj => ?_⟩
  by_cases hj' : j < vs.length
  · simp only [if_pos hj']
    obtain ⟨e1, e2⟩ := H j hj'
    refine ⟨by rw [List.getElem?_append_left hj', e1], ?_⟩
    rw [List.getD_eq_getElem?_getD] at e2 ⊢
    rw [List.getElem?_append_left (h1 ▸ hj')]
    exact e2
  · have : j = vs.length := by simp at hj; omega
    subst this
    simp only [if_neg hj']
    refine ⟨by simp, ?_⟩
    rw [List.getD_eq_getElem?_getD, h1]
    simpa using hT
theorem TupsAre.unsnoc {v : Value} {z : Str} (H : TupsAre nw (vs ++ [v]) (parts ++ [z])) : TupsAre nw vs parts := by
  obtain ⟨h1, Ts, t1, t2, H⟩ := H
  have h1' : vs.length = parts.length := by simpa using h1
  refine ⟨h1', Ts, t1, t2, fun j hj => ?_⟩
  obtain ⟨e1, e2⟩ := H j (by simp; omega)
  rw [List.getElem?_append_left hj] at e1
  rw [List.getD_eq_getElem?_getD, List.getElem?_append_left (h1' ▸ hj)] at e2
  refine ⟨e1, ?_⟩
  rw [List.getD_eq_getElem?_getD]
  exact e2
theorem AccIn.upto (N : News h₀ L h nw) (hy : (y, oy) ∈ nw) (hc : oy.cls ≠ .type "tuple") (hd : oy.cls ≠ .type "dict") (hxy : x ≠ y) (U : Upto y nw nw') (H : AccIn nw x d es parts) : AccIn nw' x d es parts := by
  obtain ⟨vs, k, n, h1, h2, h3⟩ := H
  exact ⟨vs, k, n, U _ h1 hxy, U _ h2 (news_ne N h2 hy fun e => hd (congrArg Obj.cls e).symm), h3.upto N hy hc U⟩
theorem AccIn.mono (U : ∀ p ∈ nw, p ∈ nw') (H : AccIn nw x d es parts) : AccIn nw' x d es parts := by
  obtain ⟨vs, k, n, h1, h2, h3⟩ := H
  exact ⟨vs, k, n, U _ h1, U _ h2, h3.mono U⟩
theorem TabIn.upto (hxy : P ≠ y) (U : Upto y nw nw') (H : TabIn nw P p0) : TabIn nw' P p0 := by
  obtain ⟨ps, h1, h2⟩ := H
  exact ⟨ps, U _ h1 hxy, h2⟩
theorem TabIn.mono (U : ∀ p ∈ nw, p ∈ nw') (H : TabIn nw P p0) : TabIn nw' P p0 := by
  obtain ⟨ps, h1, h2⟩ := H
  exact ⟨ps, U _ h1, h2⟩
end

section
variable {w : World} {dp un : Nat} {gd : Option (List Code)} {cn : Str} {cs : Scope} {a : Addr} {ccd : Value} {cl : List (Str × Addr)} {outer : List Env} {A₀ : Around} {base h₀ : Heap} {L : Addr} {m : Str → Option Value} {s : Shared} {Q E : Value → Shared → Prop}
   {pg : Program} {ls : List Str} {mean : ExcName → Option Value} {mg mb : Str → Option Value} {nw : List (Addr × Obj)} {x d : Addr} {t ti : Tok} {mi : Int} {p0 : Array Value} {parts : List Str} {z : Str} {tf tz : Tok}
theorem push_r (B : Below A₀ base outer h₀) (F : Fr h₀ L s.heap m) (X : (Mine.hd.heap_39 w.params).In h₀) (N : News h₀ L s.heap nw)
   (T : Top pg ls mean mg mb h₀) (hk : cs.kind = .function) (hd : dp + 3 < recursionLimit) (H : AccIn nw x d (esI w t mi ti) parts) (hsz : parts.length < 1000)
   (hret : ∀ nw' h' tk', Fr h₀ L h' m → News h₀ L h' nw' → AccIn nw' x d (esI w t mi ti) (parts ++ [z]) → Upto x nw nw' → Q .none { s with heap := h', toks := tk' }) :
   wpAny (model PySem.Challenge.pw_rs0046_01 w) (ktrTop dp un gd cn cs L a ccd cl outer) (call (.ref 87) [.ref x, .str (Str.ofString "") tf, .str z tz]) Q E s := by
  obtain ⟨vs, k, n, h1, h2, h3⟩ := H
  refine push_c B F X N T hk hd h1 h2 esI_append (h3.1 ▸ hsz) fun T' h' tk' F' N' hlt => hret _ h' tk' F' N' ?_ upto_cons
  have hdx : d ≠ x := news_ne N h2 h1 (by intro e; cases e)
  refine ⟨_, _, n, .tail _ (mem_updL_self h1), .tail _ (mem_updL_ne h2 hdx), TupsAre.snoc ?_ (.head _)⟩
  exact h3.upto N h1 (by intro e; cases e) upto_cons

theorem count_r (B : Below A₀ base outer h₀) (F : Fr h₀ L s.heap m) (X : (Mine.hd.heap_39 w.params).In h₀) (N : News h₀ L s.heap nw)
   (T : Top pg ls mean mg mb h₀) (hk : cs.kind = .function) (hd : dp + 3 < recursionLimit) (H : AccIn nw x d (esI w t mi ti) parts)
   (hret : ∀ t h' tk', Fr h₀ L h' m → News h₀ L h' nw → Q (.int parts.length t) { s with heap := h', toks := tk' }) :
   wpAny (model PySem.Challenge.pw_rs0046_01 w) (ktrTop dp un gd cn cs L a ccd cl outer) (call (.ref 140) [.ref x]) Q E s := by
  obtain ⟨vs, k, n, h1, h2, h3⟩ := H
  refine count_c B F X N T hk hd h1 h2 fun t' h' tk' F' N' => ?_
  rw [h3.1]
  exact hret t' h' tk' F' N'

theorem pop_r (B : Below A₀ base outer h₀) (F : Fr h₀ L s.heap m) (X : (Mine.hd.heap_39 w.params).In h₀) (N : News h₀ L s.heap nw)
   (T : Top pg ls mean mg mb h₀) (hk : cs.kind = .function) (hd : dp + 4 < recursionLimit) (H : AccIn nw x d (esI w t mi ti) (parts ++ [z])) (hsz : parts.length < 1000)
   (hret : ∀ r nw' h' tk', Fr h₀ L h' m → News h₀ L h' nw' → AccIn nw' x d (esI w t mi ti) parts → Upto x nw nw' → Q (.ref r) { s with heap := h', toks := tk' }) :
   wpAny (model PySem.Challenge.pw_rs0046_01 w) (ktrTop dp un gd cn cs L a ccd cl outer) (call (.ref 103) [.ref x]) Q E s := by
  obtain ⟨vs, k, n, h1, h2, h3⟩ := H
  have hl : vs.length = parts.length + 1 := by have := h3.1; simpa using this
  obtain ⟨vs', v, rfl⟩ : ∃ vs' v, vs = vs' ++ [v] := by
    refine ⟨vs.dropLast, vs.getLast (by intro e; rw [e] at hl; cases hl), (List.dropLast_concat_getLast _).symm⟩
  obtain ⟨r, rfl⟩ : ∃ r, v = .ref r := by
    obtain ⟨_, Ts, t1, t2, H⟩ := h3
    have := (H vs'.length (by simp)).1
    simp at this
    exact ⟨_, this⟩
  have hl' : vs'.length = parts.length := by simpa using hl
  refine pop_c B F X N T hk hd h1 h2 esI_count (hl' ▸ hsz) fun h' tk' F' N' => hret r _ h' tk' F' N' ?_ upto_updL
  have hdx : d ≠ x := news_ne N h2 h1 (by intro e; cases e)
  exact ⟨_, _, n, mem_updL_self h1, mem_updL_ne h2 hdx, h3.unsnoc.upto N h1 (by intro e; cases e) upto_updL⟩

theorem str_r (B : Below A₀ base outer h₀) (F : Fr h₀ L s.heap m) (X : (Mine.hd.heap_39 w.params).In h₀) (N : News h₀ L s.heap nw)
   (T : Top pg ls mean mg mb h₀) (hk : cs.kind = .function) (hd : dp + 3 < recursionLimit) (hu : un + 64 < cLine) (H : AccIn nw x d (esI w t mi ti) parts) (HT : TabIn nw 112 p0)
   (hlen : ∀ p ∈ parts, p.length ≤ 100) (hall : (parts.map (·.length)).sum ≤ 1000) (hn1 : parts.length ≤ 1000)
   (hret : ∀ t s' nw', Sm s s' → Fr h₀ L s'.heap m → News h₀ L s'.heap nw' → TabIn nw' 112 p0 → Upto 112 nw nw' → Q (.str (cat parts) t) s') :
   wpAny (model PySem.Challenge.pw_rs0046_01 w) (ktrTop dp un gd cn cs L a ccd cl outer) (call (.type "str") [.ref x]) Q E s := by
  obtain ⟨vs, k, n, h1, h2, h3⟩ := H
  obtain ⟨ps, h4, h5⟩ := HT
  refine kso_call (K := Mine.hd.heap_39 w.params) (f := 117) (by show un + 1 + 1 < cLine; omega) (X.keeps F.keep) (inst_acc N h1 h2) (by k_is) (by k_is) ?_
  refine str_c B F X N T hk hd h1 h2 h4 h5.2 h3 hlen hall hn1 fun t' s' ps' hsm hg F' N' => ?_
  exact hret t' s' _ hsm F' N' ⟨ps', mem_updL_self h4, h5.trans hg⟩ upto_updL

theorem len_r (B : Below A₀ base outer h₀) (F : Fr h₀ L s.heap m) (X : (Mine.hd.heap_39 w.params).In h₀) (N : News h₀ L s.heap nw)
   (T : Top pg ls mean mg mb h₀) (hk : cs.kind = .function) (hd : dp + 3 < recursionLimit) (hu : un + 66 < cLine) (H : AccIn nw x d (esI w t mi ti) parts) (HT : TabIn nw 105 p0)
   (hlen : ∀ p ∈ parts, p.length ≤ 100) (hmi : 0 ≤ mi ∧ mi ≤ 1000) (hall : (parts.map (·.length)).sum ≤ 1000)
   (hret : ∀ t s' nw', Sm s s' → Fr h₀ L s'.heap m → News h₀ L s'.heap nw' → TabIn nw' 105 p0 → Upto 105 nw nw' → Q (.int (mi + ((parts.map (·.length)).sum : Nat)) t) s') :
   wpAny (model PySem.Challenge.pw_rs0046_01 w) (ktrTop dp un gd cn cs L a ccd cl outer) (call (.builtin "len") [.ref x]) Q E s := by
  obtain ⟨vs, k, n, h1, h2, h3⟩ := H
  obtain ⟨ps, h4, h5⟩ := HT
  refine PySem.W.len_K (K := Mine.hd.heap_39 w.params) (f := 110) F X (inst_acc N h1 h2) (by k_is) (by k_is) ?_
  refine len_c (un := un + 1) B F X N T hk hd (by omega) h1 h2 esI_size h4 h5.2 h3 hlen fun t' s' ps' hsm hg F' N' => ?_
  exact ⟨⟨by omega, by omega⟩, hret _ _ _ (hsm.trans Sm.same) F' N' ⟨ps', mem_updL_self h4, h5.trans hg⟩ upto_updL⟩
end
end
section
open PySem PySem.W PyProof.Rows
open PySem.Spec PySem.Calls
set_option maxRecDepth 100000
/-- the end of a turn of a loop over a text -/
def StrEnd (h₀ : Heap) (L : Addr) (Inv : (Str → Option Value) → List (Addr × Obj) → Prop) (I : Addr) (oI : Obj) (s s₃ : Shared) : Prop :=
  Sm s s₃ ∧ ∃ m' all nw', Fr h₀ L s₃.heap m' ∧ News h₀ L s₃.heap all ∧ (I, oI) ∈ all ∧ Inv m' nw' ∧ ∀ p ∈ nw', p ∈ all ∧ p.1 ≠ I
def StrPost (h₀ : Heap) (L : Addr) (Inv : (Str → Option Value) → List (Addr × Obj) → Prop) (I : Addr) (oI : Obj) (s : Shared) (Qf : Flow → Shared → Prop) (f : Flow) (s₃ : Shared) : Prop :=
  match f with
  | .ret v => Qf (.ret v) s₃
  | .brk => Qf .next s₃
  | _ => StrEnd h₀ L Inv I oI s s₃
section
variable {prog : Program} {w : World} {A : Around} {E : Value → Shared → Prop} {s : Shared} {h₀ : Heap}
theorem iter_str {env : Env} {x : Str} {px : Pos} {body : List Stmt} {xs : Str} {tx : Tok} {Qf : Flow → Shared → Prop} {m : Str → Option Value} {nw : List (Addr × Obj)}
   (Inv : Nat → (Str → Option Value) → List (Addr × Obj) → Prop)
   (hh : A.handled = none) (ha : xs.cps.all (· < 128) = true) (hl : env.kindOf x = some .local) (hp : (env.scope.kind == .class || (env.scope.kind == .module && env.locals != env.globals)) = false)
   (F : Fr h₀ env.locals s.heap m) (N : News h₀ env.locals s.heap nw) (h0 : Inv 0 m nw)
   (turn : ∀ E' i c t I oI (s' : Shared) m' nw', Sm s s' → xs.cps[i]? = some c → oI.cls = .type "str_ascii_iterator" → Inv i m' nw' → (∀ p ∈ nw', p.1 ≠ I) →
      Fr h₀ env.locals s'.heap (fun y => if y = x then some (.str ⟨#[c]⟩ t) else m' y) → News h₀ env.locals s'.heap ((I, oI) :: nw') →
      wpAny (model prog w) A (execs body env) (StrPost h₀ env.locals (Inv (i + 1)) I oI s Qf) E' s')
   (done : ∀ s' m' nw', Sm s s' → Inv xs.cps.size m' nw' → Fr h₀ env.locals s'.heap m' → News h₀ env.locals s'.heap nw' → Qf .next s') :
   wpAny (model prog w) A (pyIter (.str xs tx)) (fun it s₂ => codeAny (model prog w) A (.forLoop (.Name x px) it body [] env) (fun r s' => match r with | .ok f => Qf f s' | .error e => cameBackBy (model prog w) A env E e s') s₂) E s := by
  refine wpAny_pyIter_ascii ha ?_
  have W := Walks.strAscii (prog := prog) (w := w) hh s.heap.objs.size xs tx
  have hnone : h₀.get? s.heap.objs.size = none := by
    cases e : h₀.get? s.heap.objs.size with
    | none => rfl
    | some o => exact absurd (Heap.lt_size (F.keep _ _ e)) (Nat.lt_irrefl _)
  have hLI : env.locals ≠ s.heap.objs.size := Nat.ne_of_lt F.ns.lt
  refine codeAny_forLoop (fun n s' => Sm s s' ∧ ∃ i m' nw', n + i = xs.cps.size ∧ s'.heap.IsStrIter s.heap.objs.size "str_ascii_iterator" xs tx i ∧ Fr h₀ env.locals s'.heap m' ∧ News h₀ env.locals s'.heap nw' ∧ Inv i m' nw' ∧ ∀ p ∈ nw', p.1 ≠ s.heap.objs.size) ?_ xs.cps.size ?_
  · rintro n s₁ ⟨hsm, i, m₁, nw₁, hni, hit, F₁, N₁, hI, hne⟩
    cases n with
    | zero =>
      have : i = xs.cps.size := by omega
      subst this
      refine W.done s₁ _ _ hit fun h' tk hk => ?_
      refine wpAny_execs_nil ?_
      refine done _ m₁ nw₁ (hsm.trans Sm.same) hI ⟨F₁.ns.at fun o e => hk _ o (fun hm => hLI (List.mem_singleton.mp hm)) e, fun b o e => hk b o (fun hm => by rw [List.mem_singleton.mp hm, hnone] at e; cases e) (F₁.keep b o e), F₁.above⟩ ?_
      exact news_keep N₁ fun p hp' e => hk _ _ (fun hm => hne p hp' (List.mem_singleton.mp hm)) e
    | succ n =>
      refine W.item i s₁ _ _ (by omega) hit fun v h' tk hv hit' hk => ?_
      obtain ⟨c, u, hc, rfl⟩ := hv
      refine wpAny_assign_Name (wpAny_storeName_local hl (F₁.ns.at fun o e => hk _ o (fun hm => hLI (List.mem_singleton.mp hm)) e) (fun h₂ hn₂ hs₂ => ?_) hp)
      have keep₂ : ∀ b o, b ≠ s.heap.objs.size → b ≠ env.locals → s₁.heap.get? b = some o → h₂.get? b = some o := fun b o h1 h2 e => (hs₂.2 b h2).trans (hk b o (fun hm => h1 (List.mem_singleton.mp hm)) e)
      have F₂ : Fr h₀ env.locals h₂ (fun y => if y = x then some (.str ⟨#[c]⟩ u) else m₁ y) := ⟨hn₂, fun b o e => keep₂ b o (fun h => by rw [h, hnone] at e; cases e) (Nat.ne_of_lt (Nat.lt_of_lt_of_le (Heap.lt_size e) F.above)) (F₁.keep b o e), F.above⟩
      obtain ⟨oI, hoI, hcls, hdat⟩ := hit'
      have hoI₂ : h₂.get? s.heap.objs.size = some oI := (hs₂.2 _ hLI.symm).trans hoI
      have N₂ : News h₀ env.locals h₂ ((s.heap.objs.size, oI) :: nw₁) := by
        intro p hp'
        rcases List.mem_cons.mp hp' with rfl | hp'
        · exact ⟨hoI₂, hLI.symm, hnone⟩
        · exact ⟨keep₂ _ _ (hne p hp') (N₁ p hp').2.1 (N₁ p hp').1, (N₁ p hp').2⟩
      refine wpAny_mono (turn _ i c u s.heap.objs.size oI _ m₁ nw₁ (hsm.trans Sm.same) hc hcls hI hne F₂ N₂) (fun f s₃ p => ?_) fun _ _ e => e
      have fin : StrEnd h₀ env.locals (Inv (i + 1)) s.heap.objs.size oI s s₃ → ∃ k, k < n + 1 ∧ (Sm s s₃ ∧ ∃ i m' nw', k + i = xs.cps.size ∧ s₃.heap.IsStrIter s.heap.objs.size "str_ascii_iterator" xs tx i ∧ Fr h₀ env.locals s₃.heap m' ∧ News h₀ env.locals s₃.heap nw' ∧ Inv i m' nw' ∧ ∀ p ∈ nw', p.1 ≠ s.heap.objs.size) := by
        rintro ⟨hsm₃, m', all, nw', F₃, N₃, hI₃, hInv, hsub⟩
        exact ⟨n, Nat.lt_succ_self _, hsm₃, i + 1, m', nw', by omega, ⟨oI, (N₃ _ hI₃).1, hcls, hdat⟩, F₃, fun p hp' => N₃ p (hsub p hp').1, hInv, fun p hp' => (hsub p hp').2⟩
      cases f with
      | ret v => exact p
      | brk => exact p
      | next => exact fin p
      | cont => exact fin p
  · refine ⟨Sm.same, 0, m, nw, rfl, ⟨_, Heap.get?_push_size _ rfl, rfl, rfl⟩, F.keeps fun _ _ e => Heap.get?_push_of_some _ e, news_keep N fun p _ e => Heap.get?_push_of_some _ e, h0, fun p hp' e => ?_⟩
    have := Heap.lt_size (N p hp').1
    exact absurd this (by rw [e]; exact Nat.lt_irrefl _)
end
end
section
open PySem PySem.W PyProof.Rows
open PySem.Spec PySem.Calls
set_option maxRecDepth 100000
theorem fillRb : PySem.Challenge.rw_rs0046_01 = PySem.Challenge.rw_rs0046_01 ∧ Mine.hd.heap_39 = Mine.hd.heap_39 := by
  w_top off
  k_fill
  exact ⟨rfl, rfl⟩
abbrev Led := List (Addr × Obj)
/-- what the reading holds between its turns: the line, the two tables, what is kept -/
structure RL (w : World) (nk : Led) (p1 p2 : Array Value) (line dl : Addr) (tl : Tok) (mi : Int) (ti : Tok) (parts : List Str) (nw : Led) : Prop where
  ln : AccIn nw line dl (esI w tl mi ti) parts
  t1 : TabIn nw 105 p1
  t2 : TabIn nw 112 p2
  kp : ∀ p ∈ nk, p ∈ nw
  ap : ∀ p ∈ nk, p.1 ≠ line ∧ p.1 ≠ 105 ∧ p.1 ≠ 112
/-- and within a turn: the piece too -/
structure RS (w : World) (nk : Led) (p1 p2 : Array Value) (line dl : Addr) (tl : Tok) (mi : Int) (ti : Tok) (parts : List Str) (pie dpc : Addr) (tp tq : Tok) (pcs : List Str) (nw : Led) : Prop where
  rl : RL w nk p1 p2 line dl tl mi ti parts nw
  pc : AccIn nw pie dpc (esI w tp 0 tq) pcs
  ne : line ≠ pie
  ap : ∀ p ∈ nk, p.1 ≠ pie
section
variable {w : World} {nk nw nw' : Led} {p1 p2 : Array Value} {line dl : Addr} {tl : Tok} {mi : Int} {ti : Tok} {parts : List Str} {pie dpc : Addr} {tp tq : Tok} {pcs : List Str} {h₀ h : Heap} {L : Addr}
theorem RL.mono (U : ∀ p ∈ nw, p ∈ nw') (R : RL w nk p1 p2 line dl tl mi ti parts nw) : RL w nk p1 p2 line dl tl mi ti parts nw' :=
  ⟨R.ln.mono U, R.t1.mono U, R.t2.mono U, fun p hp => U p (R.kp p hp), R.ap⟩
theorem RS.mono (U : ∀ p ∈ nw, p ∈ nw') (R : RS w nk p1 p2 line dl tl mi ti parts pie dpc tp tq pcs nw) : RS w nk p1 p2 line dl tl mi ti parts pie dpc tp tq pcs nw' :=
  ⟨R.rl.mono U, R.pc.mono U, R.ne, R.ap⟩
theorem RL.cons {q : Addr × Obj} (R : RL w nk p1 p2 line dl tl mi ti parts nw) : RL w nk p1 p2 line dl tl mi ti parts (q :: nw) := R.mono fun _ hp => .tail _ hp
theorem RS.cons {q : Addr × Obj} (R : RS w nk p1 p2 line dl tl mi ti parts pie dpc tp tq pcs nw) : RS w nk p1 p2 line dl tl mi ti parts pie dpc tp tq pcs (q :: nw) := R.mono fun _ hp => .tail _ hp
theorem AccIn.ne_tab {x d P : Addr} {es : List DictEntry} {p0 : Array Value} (N : News h₀ L h nw) (H : AccIn nw x d es parts) (T : TabIn nw P p0) : x ≠ P := by
  obtain ⟨vs, k, n, h1, h2, h3⟩ := H
  obtain ⟨ps, h4, _⟩ := T
  exact news_ne N h1 h4 (by intro e; cases e)
/-- a table grew -/
theorem RL.tab1 (N : News h₀ L h nw) (R : RL w nk p1 p2 line dl tl mi ti parts nw) (T : TabIn nw' 105 p1) (U : Upto 105 nw nw') : RL w nk p1 p2 line dl tl mi ti parts nw' := by
  obtain ⟨ps, h4, _⟩ := R.t1
  exact ⟨R.ln.upto N h4 (by intro e; cases e) (by intro e; cases e) (R.ln.ne_tab N R.t1) U, T, R.t2.upto (by decide) U, fun p hp => U p (R.kp p hp) (R.ap p hp).2.1, R.ap⟩
theorem RL.tab2 (N : News h₀ L h nw) (R : RL w nk p1 p2 line dl tl mi ti parts nw) (T : TabIn nw' 112 p2) (U : Upto 112 nw nw') : RL w nk p1 p2 line dl tl mi ti parts nw' := by
  obtain ⟨ps, h4, _⟩ := R.t2
  exact ⟨R.ln.upto N h4 (by intro e; cases e) (by intro e; cases e) (R.ln.ne_tab N R.t2) U, R.t1.upto (by decide) U, T, fun p hp => U p (R.kp p hp) (R.ap p hp).2.2, R.ap⟩
theorem RS.tab2 (N : News h₀ L h nw) (R : RS w nk p1 p2 line dl tl mi ti parts pie dpc tp tq pcs nw) (T : TabIn nw' 112 p2) (U : Upto 112 nw nw') : RS w nk p1 p2 line dl tl mi ti parts pie dpc tp tq pcs nw' := by
  obtain ⟨ps, h4, _⟩ := R.rl.t2
  exact ⟨R.rl.tab2 N T U, R.pc.upto N h4 (by intro e; cases e) (by intro e; cases e) (R.pc.ne_tab N R.rl.t2) U, R.ne, R.ap⟩
/-- the piece changed -/
theorem RS.piece {pcs' : List Str} (N : News h₀ L h nw) (R : RS w nk p1 p2 line dl tl mi ti parts pie dpc tp tq pcs nw) (H : AccIn nw' pie dpc (esI w tp 0 tq) pcs') (U : Upto pie nw nw') : RS w nk p1 p2 line dl tl mi ti parts pie dpc tp tq pcs' nw' := by
  obtain ⟨vs, k, n, h1, h2, h3⟩ := R.pc
  exact ⟨⟨R.rl.ln.upto N h1 (by intro e; cases e) (by intro e; cases e) R.ne U, R.rl.t1.upto (R.pc.ne_tab N R.rl.t1).symm U, R.rl.t2.upto (R.pc.ne_tab N R.rl.t2).symm U, fun p hp => U p (R.rl.kp p hp) (R.ap p hp), R.rl.ap⟩, H, R.ne, R.ap⟩
/-- the line changed -/
theorem RL.lined {parts' : List Str} (N : News h₀ L h nw) (R : RL w nk p1 p2 line dl tl mi ti parts nw) (H : AccIn nw' line dl (esI w tl mi ti) parts') (U : Upto line nw nw') : RL w nk p1 p2 line dl tl mi ti parts' nw' :=
  ⟨H, R.t1.upto (R.ln.ne_tab N R.t1).symm U, R.t2.upto (R.ln.ne_tab N R.t2).symm U, fun p hp => U p (R.kp p hp) (R.ap p hp).1, R.ap⟩
/-- one more thing is kept -/
theorem RL.keep {I : Addr} {oI : Obj} (N : News h₀ L h nw) (R : RL w nk p1 p2 line dl tl mi ti parts nw) (hI : (I, oI) ∈ nw) (hc : oI.cls = .type "str_ascii_iterator") : RL w ((I, oI) :: nk) p1 p2 line dl tl mi ti parts nw := by
  obtain ⟨vs, k, n, h1, h2, h3⟩ := R.ln
  obtain ⟨ps, h4, _⟩ := R.t1
  obtain ⟨ps', h5, _⟩ := R.t2
  have d1 : I ≠ line := news_ne N hI h1 (by intro e; rw [show oI = accObj dl vs k from e] at hc; cases hc)
  have d2 : I ≠ 105 := news_ne N hI h4 (by intro e; rw [show oI = tabObj ps from e] at hc; cases hc)
  have d3 : I ≠ 112 := news_ne N hI h5 (by intro e; rw [show oI = tabObj ps' from e] at hc; cases hc)
  refine ⟨R.ln, R.t1, R.t2, fun p hp => ?_, fun p hp => ?_⟩
  · rcases List.mem_cons.mp hp with rfl | hp
    · exact hI
    · exact R.kp p hp
  · rcases List.mem_cons.mp hp with rfl | hp
    · exact ⟨d1, d2, d3⟩
    · exact R.ap p hp
theorem RS.keep {I : Addr} {oI : Obj} (N : News h₀ L h nw) (R : RS w nk p1 p2 line dl tl mi ti parts pie dpc tp tq pcs nw) (hI : (I, oI) ∈ nw) (hc : oI.cls = .type "str_ascii_iterator") : RS w ((I, oI) :: nk) p1 p2 line dl tl mi ti parts pie dpc tp tq pcs nw := by
  obtain ⟨vs, k, n, h1, h2, h3⟩ := R.pc
  have d1 : I ≠ pie := news_ne N hI h1 (by intro e; rw [show oI = accObj dpc vs k from e] at hc; cases hc)
  refine ⟨R.rl.keep N hI hc, R.pc, R.ne, fun p hp => ?_⟩
  rcases List.mem_cons.mp hp with rfl | hp
  · exact d1
  · exact R.ap p hp
theorem TupsAre.drop {I : Addr} {oI : Obj} {vs : List Value} (N : News h₀ L h nw) (hI : (I, oI) ∈ nw) (hc : oI.cls = .type "str_ascii_iterator") (H : TupsAre nw vs parts) : TupsAre (nw.filter (·.1 != I)) vs parts := by
  refine H.upto N hI (by rw [hc]; decide) fun p hp hne => List.mem_filter.mpr ⟨hp, by simpa using hne⟩
theorem upto_filter {I : Addr} : Upto I nw (nw.filter (·.1 != I)) := fun p hp hne => List.mem_filter.mpr ⟨hp, by simpa using hne⟩
/-- what was kept for a loop alone goes -/
theorem RL.drop {I : Addr} {oI : Obj} (N : News h₀ L h nw) (R : RL w ((I, oI) :: nk) p1 p2 line dl tl mi ti parts nw) (hc : oI.cls = .type "str_ascii_iterator") (hI : ∀ p ∈ nk, p.1 ≠ I) : RL w nk p1 p2 line dl tl mi ti parts (nw.filter (·.1 != I)) := by
  have hm := R.kp _ (.head _)
  have ap := R.ap _ (.head _)
  exact ⟨R.ln.upto N hm (by rw [hc]; decide) (by rw [hc]; decide) ap.1.symm upto_filter, R.t1.upto ap.2.1.symm upto_filter, R.t2.upto ap.2.2.symm upto_filter,
    fun p hp => upto_filter p (R.kp p (.tail _ hp)) (hI p hp), fun p hp => R.ap p (.tail _ hp)⟩
theorem RS.drop {I : Addr} {oI : Obj} (N : News h₀ L h nw) (R : RS w ((I, oI) :: nk) p1 p2 line dl tl mi ti parts pie dpc tp tq pcs nw) (hc : oI.cls = .type "str_ascii_iterator") (hI : ∀ p ∈ nk, p.1 ≠ I) : RS w nk p1 p2 line dl tl mi ti parts pie dpc tp tq pcs (nw.filter (·.1 != I)) := by
  have hm := R.rl.kp _ (.head _)
  exact ⟨R.rl.drop N hc hI, R.pc.upto N hm (by rw [hc]; decide) (by rw [hc]; decide) (R.ap _ (.head _)).symm upto_filter, R.ne, fun p hp => R.ap p (.tail _ hp)⟩
end

section
variable {w : World} {dp un : Nat} {gd : Option (List Code)} {cn : Str} {cs : Scope} {a : Addr} {ccd : Value} {cl : List (Str × Addr)} {outer : List Env} {A₀ : Around} {base h₀ : Heap} {L : Addr} {m : Str → Option Value} {s : Shared} {Q E : Value → Shared → Prop}
   {pg : Program} {ls : List Str} {mean : ExcName → Option Value} {mg mb : Str → Option Value} {z : Str} {tf tz : Tok}
   {nk nw : Led} {p1 p2 : Array Value} {line dl : Addr} {tl : Tok} {mi : Int} {ti : Tok} {parts : List Str} {pie dpc : Addr} {tp tq : Tok} {pcs : List Str}
theorem rs_push (B : Below A₀ base outer h₀) (F : Fr h₀ L s.heap m) (X : (Mine.hd.heap_39 w.params).In h₀) (N : News h₀ L s.heap nw)
   (T : Top pg ls mean mg mb h₀) (hk : cs.kind = .function) (hd : dp + 3 < recursionLimit) (R : RS w nk p1 p2 line dl tl mi ti parts pie dpc tp tq pcs nw) (hsz : pcs.length < 1000)
   (hret : ∀ nw' h' tk', Fr h₀ L h' m → News h₀ L h' nw' → RS w nk p1 p2 line dl tl mi ti parts pie dpc tp tq (pcs ++ [z]) nw' → Q .none { s with heap := h', toks := tk' }) :
   wpAny (model PySem.Challenge.pw_rs0046_01 w) (ktrTop dp un gd cn cs L a ccd cl outer) (call (.ref 87) [.ref pie, .str (Str.ofString "") tf, .str z tz]) Q E s :=
  push_r B F X N T hk hd R.pc hsz fun nw' h' tk' F' N' H U => hret nw' h' tk' F' N' (R.piece N H U)
theorem rl_push (B : Below A₀ base outer h₀) (F : Fr h₀ L s.heap m) (X : (Mine.hd.heap_39 w.params).In h₀) (N : News h₀ L s.heap nw)
   (T : Top pg ls mean mg mb h₀) (hk : cs.kind = .function) (hd : dp + 3 < recursionLimit) (R : RS w nk p1 p2 line dl tl mi ti parts pie dpc tp tq pcs nw) (hsz : parts.length < 1000)
   (hret : ∀ nw' h' tk', Fr h₀ L h' m → News h₀ L h' nw' → RL w nk p1 p2 line dl tl mi ti (parts ++ [z]) nw' → Q .none { s with heap := h', toks := tk' }) :
   wpAny (model PySem.Challenge.pw_rs0046_01 w) (ktrTop dp un gd cn cs L a ccd cl outer) (call (.ref 87) [.ref line, .str (Str.ofString "") tf, .str z tz]) Q E s :=
  push_r B F X N T hk hd R.rl.ln hsz fun nw' h' tk' F' N' H U => hret nw' h' tk' F' N' (R.rl.lined N H U)
theorem rs_count (B : Below A₀ base outer h₀) (F : Fr h₀ L s.heap m) (X : (Mine.hd.heap_39 w.params).In h₀) (N : News h₀ L s.heap nw)
   (T : Top pg ls mean mg mb h₀) (hk : cs.kind = .function) (hd : dp + 3 < recursionLimit) (R : RS w nk p1 p2 line dl tl mi ti parts pie dpc tp tq pcs nw)
   (hret : ∀ t h' tk', Fr h₀ L h' m → News h₀ L h' nw → Q (.int pcs.length t) { s with heap := h', toks := tk' }) :
   wpAny (model PySem.Challenge.pw_rs0046_01 w) (ktrTop dp un gd cn cs L a ccd cl outer) (call (.ref 140) [.ref pie]) Q E s :=
  count_r B F X N T hk hd R.pc hret
theorem rs_pop (B : Below A₀ base outer h₀) (F : Fr h₀ L s.heap m) (X : (Mine.hd.heap_39 w.params).In h₀) (N : News h₀ L s.heap nw)
   (T : Top pg ls mean mg mb h₀) (hk : cs.kind = .function) (hd : dp + 4 < recursionLimit) (R : RS w nk p1 p2 line dl tl mi ti parts pie dpc tp tq (pcs ++ [z]) nw) (hsz : pcs.length < 1000)
   (hret : ∀ r nw' h' tk', Fr h₀ L h' m → News h₀ L h' nw' → RS w nk p1 p2 line dl tl mi ti parts pie dpc tp tq pcs nw' → Q (.ref r) { s with heap := h', toks := tk' }) :
   wpAny (model PySem.Challenge.pw_rs0046_01 w) (ktrTop dp un gd cn cs L a ccd cl outer) (call (.ref 103) [.ref pie]) Q E s :=
  pop_r B F X N T hk hd R.pc hsz fun r nw' h' tk' F' N' H U => hret r nw' h' tk' F' N' (R.piece N H U)
theorem rs_strp (B : Below A₀ base outer h₀) (F : Fr h₀ L s.heap m) (X : (Mine.hd.heap_39 w.params).In h₀) (N : News h₀ L s.heap nw)
   (T : Top pg ls mean mg mb h₀) (hk : cs.kind = .function) (hd : dp + 3 < recursionLimit) (hu : un + 64 < cLine) (R : RS w nk p1 p2 line dl tl mi ti parts pie dpc tp tq pcs nw)
   (hlen : ∀ p ∈ pcs, p.length ≤ 100) (hall : (pcs.map (·.length)).sum ≤ 1000) (hn1 : pcs.length ≤ 1000)
   (hret : ∀ t s' nw', Sm s s' → Fr h₀ L s'.heap m → News h₀ L s'.heap nw' → RS w nk p1 p2 line dl tl mi ti parts pie dpc tp tq pcs nw' → Q (.str (cat pcs) t) s') :
   wpAny (model PySem.Challenge.pw_rs0046_01 w) (ktrTop dp un gd cn cs L a ccd cl outer) (call (.type "str") [.ref pie]) Q E s :=
  str_r B F X N T hk hd hu R.pc R.rl.t2 hlen hall hn1 fun t s' nw' hsm F' N' H U => hret t s' nw' hsm F' N' (R.tab2 N H U)
theorem rs_strl (B : Below A₀ base outer h₀) (F : Fr h₀ L s.heap m) (X : (Mine.hd.heap_39 w.params).In h₀) (N : News h₀ L s.heap nw)
   (T : Top pg ls mean mg mb h₀) (hk : cs.kind = .function) (hd : dp + 3 < recursionLimit) (hu : un + 64 < cLine) (R : RS w nk p1 p2 line dl tl mi ti parts pie dpc tp tq pcs nw)
   (hlen : ∀ p ∈ parts, p.length ≤ 100) (hall : (parts.map (·.length)).sum ≤ 1000) (hn1 : parts.length ≤ 1000)
   (hret : ∀ t s' nw', Sm s s' → Fr h₀ L s'.heap m → News h₀ L s'.heap nw' → RS w nk p1 p2 line dl tl mi ti parts pie dpc tp tq pcs nw' → Q (.str (cat parts) t) s') :
   wpAny (model PySem.Challenge.pw_rs0046_01 w) (ktrTop dp un gd cn cs L a ccd cl outer) (call (.type "str") [.ref line]) Q E s :=
  str_r B F X N T hk hd hu R.rl.ln R.rl.t2 hlen hall hn1 fun t s' nw' hsm F' N' H U => hret t s' nw' hsm F' N' (R.tab2 N H U)
theorem rs_strq {q : Addr × Obj} (B : Below A₀ base outer h₀) (F : Fr h₀ L s.heap m) (X : (Mine.hd.heap_39 w.params).In h₀) (N : News h₀ L s.heap nw)
   (T : Top pg ls mean mg mb h₀) (hk : cs.kind = .function) (hd : dp + 3 < recursionLimit) (hu : un + 64 < cLine) (R : RS w nk p1 p2 line dl tl mi ti parts pie dpc tp tq pcs nw) (hq : q ∈ nw) (hqc : q.2.cls = .type "list")
   (hlen : ∀ p ∈ parts, p.length ≤ 100) (hall : (parts.map (·.length)).sum ≤ 1000) (hn1 : parts.length ≤ 1000)
   (hret : ∀ t s' nw', Sm s s' → Fr h₀ L s'.heap m → News h₀ L s'.heap nw' → RS w nk p1 p2 line dl tl mi ti parts pie dpc tp tq pcs nw' → q ∈ nw' → Q (.str (cat parts) t) s') :
   wpAny (model PySem.Challenge.pw_rs0046_01 w) (ktrTop dp un gd cn cs L a ccd cl outer) (call (.type "str") [.ref line]) Q E s :=
  str_r B F X N T hk hd hu R.rl.ln R.rl.t2 hlen hall hn1 fun t s' nw' hsm F' N' H U => hret t s' nw' hsm F' N' (R.tab2 N H U) (U q hq (by
    obtain ⟨ps, h4, _⟩ := R.rl.t2
    exact news_ne N hq h4 (by intro e; rw [e] at hqc; cases hqc)))
theorem rl_len (B : Below A₀ base outer h₀) (F : Fr h₀ L s.heap m) (X : (Mine.hd.heap_39 w.params).In h₀) (N : News h₀ L s.heap nw)
   (T : Top pg ls mean mg mb h₀) (hk : cs.kind = .function) (hd : dp + 3 < recursionLimit) (hu : un + 66 < cLine) (R : RL w nk p1 p2 line dl tl mi ti parts nw)
   (hlen : ∀ p ∈ parts, p.length ≤ 100) (hmi : 0 ≤ mi ∧ mi ≤ 1000) (hall : (parts.map (·.length)).sum ≤ 1000)
   (hret : ∀ t s' nw', Sm s s' → Fr h₀ L s'.heap m → News h₀ L s'.heap nw' → RL w nk p1 p2 line dl tl mi ti parts nw' → Q (.int (mi + ((parts.map (·.length)).sum : Nat)) t) s') :
   wpAny (model PySem.Challenge.pw_rs0046_01 w) (ktrTop dp un gd cn cs L a ccd cl outer) (call (.builtin "len") [.ref line]) Q E s :=
  len_r B F X N T hk hd hu R.ln R.t1 hlen hmi hall fun t s' nw' hsm F' N' H U => hret t s' nw' hsm F' N' (R.tab1 N H U)
theorem rl_piece (B : Below A₀ base outer h₀) (F : Fr h₀ L s.heap m) (X : (Mine.hd.heap_39 w.params).In h₀) (N : News h₀ L s.heap nw)
   (T : Top pg ls mean mg mb h₀) (hk : cs.kind = .function) (hd : dp + 3 < recursionLimit) (R : RL w nk p1 p2 line dl tl mi ti parts nw)
   (hret : ∀ pie dpc tp tq nw' h' tk', Fr h₀ L h' m → News h₀ L h' nw' → RS w nk p1 p2 line dl tl mi ti parts pie dpc tp tq [] nw' → Q (.ref pie) { s with heap := h', toks := tk' }) :
   wpAny (model PySem.Challenge.pw_rs0046_01 w) (ktrTop dp un gd cn cs L a ccd cl outer) (call (.ref 143) []) Q E s := by
  refine acc_new0 B F X N T hk hd fun x dx t ti' h' tk' F' N' hlt hdx => hret x dx t ti' _ h' tk' F' N' ?_
  have lt : ∀ p ∈ nw, p.1 ≠ x := fun p hp => Nat.ne_of_lt (Nat.lt_trans (hlt p hp) hdx)
  obtain ⟨vs, k, n, h1, h2, h3⟩ := id R.ln
  exact ⟨R.cons.cons, ⟨[], 0, 1, .head _, .tail _ (.head _), rfl, fun _ => 0, fun _ => 0, fun _ => 0, fun j hj => absurd hj (Nat.not_lt_zero _)⟩, lt _ h1, fun p hp => lt p (R.kp p hp)⟩
theorem rs_meth {x d : Addr} {t' ti' : Tok} {mi' : Int} {ps : List Str} {pl : Sem Bool} {name : Str} {f : Value} {A : Around} {Q : Value × List Value → Shared → Prop} (F : Fr h₀ L s.heap m) (X : (Mine.hd.heap_39 w.params).In h₀) (N : News h₀ L s.heap nw)
   (H : AccIn nw x d (esI w t' mi' ti') ps) (hf : findIn (Mine.hd.heap_39 w.params) (.ref 143) name = some (some f)) (ht : typeIn (Mine.hd.heap_39 w.params) f = some (.type "method_descriptor") ∨ typeIn (Mine.hd.heap_39 w.params) f = some (.type "function"))
   (hl : getL name (esI w t' mi' ti') = some none) (h : Q (f, [.ref x]) s) : wpAny (model PySem.Challenge.pw_rs0046_01 w) A (getMethod (.ref x) name pl) Q E s := by
  obtain ⟨vs, k, n, h1, h2, h3⟩ := H
  exact acc_method (K := Mine.hd.heap_39 w.params) F X N h1 h2 (by k_dflt kernel_rfl) hf ht hl h
end
end
section
open PySem PySem.W PyProof.Rows
open PySem.Spec PySem.Calls
set_option maxRecDepth 100000
set_option pp.deepTerms false
set_option pp.maxSteps 10000
theorem fillRd : PySem.Challenge.rw_rs0046_01 = PySem.Challenge.rw_rs0046_01 ∧ Mine.hd.heap_39 = Mine.hd.heap_39 := by
  w_top off
  k_fill
  exact ⟨rfl, rfl⟩
local macro_rules | `(tactic| walk_at "no such key") => `(tactic| skip)
local macro_rules | `(tactic| k_mem) => `(tactic| assumption)

local macro_rules | `(tactic| k_mem) => `(tactic| assumption)
/-- a sign as a text -/
def sg (c : Nat) : Str := ⟨#[c]⟩
theorem cat_sg (l : List Nat) : cat (l.map sg) = ⟨l.toArray⟩ := by
  unfold cat
  congr 2
  induction l with
  | nil => rfl
  | cons c r ih => simp [sg, ih]
theorem sum_sg (l : List Nat) : ((l.map sg).map (·.length)).sum = l.length := by
  induction l with
  | nil => rfl
  | cons c r ih =>
    simp only [List.map_cons, List.sum_cons, List.length_cons, ih]
    have : (sg c).length = 1 := rfl
    omega
theorem len_sg (l : List Nat) : ∀ p ∈ l.map sg, p.length ≤ 100 := by
  intro p hp
  obtain ⟨c, _, rfl⟩ := List.mem_map.mp hp
  exact Nat.le_of_ble_eq_true rfl
theorem cat_length (ps : List Str) : (cat ps).length = (ps.map (·.length)).sum := by
  unfold cat
  show (List.toArray _).size = _
  simp [List.length_flatMap, Str.length]
/-- how a piece grows: sign after sign, as long as it is one sign or it stands -/
noncomputable def grow (ok : Str → Bool) : List Nat → List Nat → List Nat
  | pc, [] => pc
  | pc, c :: r => if 1 < (pc ++ [c]).length ∧ ok ⟨(pc ++ [c]).toArray⟩ = false then pc else grow ok (pc ++ [c]) r
def agents (p : Str) : List Str := [Str.ofString "c", Str.ofString "*", p, Str.ofString "C"]
def okAt (ahead p : Str) : Bool := appl (agents p) ahead
def restOf (text : Str) (parts : List Str) : List Nat := text.cps.toList.drop (cat parts).length
noncomputable def stepR (text : Str) (parts : List Str) : List Str := if restOf text parts = [] then parts else parts ++ [⟨(grow (okAt (cat parts)) [] (restOf text parts)).toArray⟩]
noncomputable def readN (text : Str) : Nat → List Str
  | 0 => []
  | n + 1 => stepR text (readN text n)
theorem grow_le (ok : Str → Bool) : ∀ (r pc : List Nat), (grow ok pc r).length ≤ pc.length + r.length
  | [], pc => by simp [grow]
  | c :: r, pc => by
    unfold grow
    split
    · simp
    · have := grow_le ok r (pc ++ [c])
      simp at this ⊢
      omega
theorem readN_le (text : Str) : ∀ n, (cat (readN text n)).length ≤ text.length ∧ (∀ p ∈ readN text n, p.length ≤ text.length) ∧ (readN text n).length ≤ n
  | 0 => ⟨Nat.zero_le _, (fun p hp => nomatch hp), Nat.le_refl _⟩
  | n + 1 => by
    obtain ⟨h1, h2, h3⟩ := readN_le text n
    unfold readN stepR
    split
    · exact ⟨h1, h2, Nat.le_succ_of_le h3⟩
    · have hg := grow_le (okAt (cat (readN text n))) (restOf text (readN text n)) []
      have hr : (restOf text (readN text n)).length = text.length - (cat (readN text n)).length := by
        unfold restOf; rw [List.length_drop]; rfl
      simp only [List.length_nil, Nat.zero_add] at hg
      refine ⟨?_, fun p hp => ?_, by simp; omega⟩
      · rw [cat_length] at h1 hr ⊢
        rw [List.map_append, List.sum_append]
        simp only [List.map_cons, List.map_nil, List.sum_cons, List.sum_nil, Str.length, List.size_toArray]
        simp only [Str.length] at h1 hr
        omega
      · rcases List.mem_append.mp hp with hp | hp
        · exact h2 p hp
        · rw [List.mem_singleton.mp hp]
          show (List.toArray _).size ≤ _
          rw [List.size_toArray]
          omega

def OutEnd (h₀ : Heap) (L : Addr) (Out : (Str → Option Value) → List (Addr × Obj) → Prop) (s s₃ : Shared) : Prop := Sm s s₃ ∧ ∃ m' nw', Fr h₀ L s₃.heap m' ∧ News h₀ L s₃.heap nw' ∧ Out m' nw'
/-- the end of a turn of a loop that is left in one state alone -/
def OutPost (h₀ : Heap) (L : Addr) (Inv Out : (Str → Option Value) → List (Addr × Obj) → Prop) (I : Addr) (oI : Obj) (s : Shared) (f : Flow) (s₃ : Shared) : Prop :=
  match f with
  | .ret _ => False
  | .brk => OutEnd h₀ L Out s s₃
  | _ => StrEnd h₀ L Inv I oI s s₃
theorem iter_out {prog : Program} {w : World} {A : Around} {E : Value → Shared → Prop} {s : Shared} {h₀ : Heap} {env : Env} {x : Str} {px : Pos} {body : List Stmt} {xs : Str} {tx : Tok} {Qf : Flow → Shared → Prop} {m : Str → Option Value} {nw : List (Addr × Obj)}
   (Inv : Nat → (Str → Option Value) → List (Addr × Obj) → Prop) (Out : (Str → Option Value) → List (Addr × Obj) → Prop)
   (hh : A.handled = none) (ha : xs.cps.all (· < 128) = true) (hl : env.kindOf x = some .local) (hp : (env.scope.kind == .class || (env.scope.kind == .module && env.locals != env.globals)) = false)
   (F : Fr h₀ env.locals s.heap m) (N : News h₀ env.locals s.heap nw) (h0 : Inv 0 m nw)
   (turn : ∀ E' i c t I oI (s' : Shared) m' nw', Sm s s' → xs.cps[i]? = some c → oI.cls = .type "str_ascii_iterator" → Inv i m' nw' → (∀ p ∈ nw', p.1 ≠ I) →
      Fr h₀ env.locals s'.heap (fun y => if y = x then some (.str ⟨#[c]⟩ t) else m' y) → News h₀ env.locals s'.heap ((I, oI) :: nw') →
      wpAny (model prog w) A (execs body env) (OutPost h₀ env.locals (Inv (i + 1)) Out I oI s) E' s')
   (fin : ∀ m' nw', Inv xs.cps.size m' nw' → Out m' nw')
   (after : ∀ s' m' nw', Sm s s' → Out m' nw' → Fr h₀ env.locals s'.heap m' → News h₀ env.locals s'.heap nw' → Qf .next s') :
   wpAny (model prog w) A (pyIter (.str xs tx)) (fun it s₂ => codeAny (model prog w) A (.forLoop (.Name x px) it body [] env) (fun r s' => match r with | .ok f => Qf f s' | .error e => cameBackBy (model prog w) A env E e s') s₂) E s := by
  refine iter_str Inv hh ha hl hp F N h0 (fun E' i c t I oI s' m' nw' h1 h2 h3 h4 h5 h6 h7 => wpAny_mono (turn E' i c t I oI s' m' nw' h1 h2 h3 h4 h5 h6 h7) (fun f s₃ p => ?_) fun _ _ e => e) fun s' m' nw' h1 h2 h3 h4 => after s' m' nw' h1 (fin m' nw' h2) h3 h4
  cases f with
  | ret v => exact p.elim
  | brk => obtain ⟨a1, m1, n1, a2, a3, a4⟩ := p; exact after s₃ m1 n1 a1 a4 a2 a3
  | next => exact p
  | cont => exact p
theorem m_is3 {m : Str → Option Value} {a b c : Option Value} (h1 : m (Str.ofString "text") = a) (h2 : m (Str.ofString "margin") = b) (h3 : m (Str.ofString "line") = c) :
    m = fun y => if y = Str.ofString "text" then a else if y = Str.ofString "margin" then b else if y = Str.ofString "line" then c else m y := by
  funext y
  by_cases e1 : y = Str.ofString "text"
  · simp only [if_pos e1]; rw [e1]; exact h1
  · by_cases e2 : y = Str.ofString "margin"
    · simp only [if_neg e1, if_pos e2]; rw [e2]; exact h2
    · by_cases e3 : y = Str.ofString "line"
      · simp only [if_neg e1, if_neg e2, if_pos e3]; rw [e3]; exact h3
      · simp only [if_neg e1, if_neg e2, if_neg e3]
theorem m_is5 {m : Str → Option Value} {a b c d e : Option Value} (h1 : m (Str.ofString "text") = a) (h2 : m (Str.ofString "margin") = b) (h3 : m (Str.ofString "line") = c) (h4 : m (Str.ofString "rest") = d) (h5 : m (Str.ofString "piece") = e) :
    m = fun y => if y = Str.ofString "rest" then d else if y = Str.ofString "piece" then e else if y = Str.ofString "text" then a else if y = Str.ofString "margin" then b else if y = Str.ofString "line" then c else m y := by
  funext y
  by_cases e1 : y = Str.ofString "rest"
  · simp only [if_pos e1]; rw [e1]; exact h4
  · by_cases e2 : y = Str.ofString "piece"
    · simp only [if_neg e1, if_pos e2]; rw [e2]; exact h5
    · simp only [if_neg e1, if_neg e2]
      exact congrFun (m_is3 h1 h2 h3) y


theorem slice_rest {text : Str} {parts : List Str} {mi : Int} (h : (cat parts).length ≤ text.length) : Txt.slice text (some (mi + ((parts.map (·.length)).sum : Nat) - mi)) none = ⟨(restOf text parts).toArray⟩ := by
  have e : mi + ((parts.map (·.length)).sum : Nat) - mi = ((cat parts).length : Int) := by rw [cat_length]; omega
  rw [e, slice_from_eq (b := text.length) (by omega) (by omega) rfl]
  unfold restOf
  congr 2
  rw [Int.toNat_natCast, List.take_of_length_le]
  rw [List.length_drop]
  have : text.cps.toList.length = text.length := by simp [Str.length]
  omega
theorem grow_stop {ok : Str → Bool} {pc r : List Nat} {c : Nat} (h1 : 1 < (pc ++ [c]).length) (h2 : ok ⟨(pc ++ [c]).toArray⟩ = false) : grow ok pc (c :: r) = pc := by
  unfold grow
  rw [if_pos ⟨h1, h2⟩]
theorem grow_on {ok : Str → Bool} {pc r : List Nat} {c : Nat} (h : ¬ (1 < (pc ++ [c]).length ∧ ok ⟨(pc ++ [c]).toArray⟩ = false)) : grow ok pc (c :: r) = grow ok (pc ++ [c]) r := by
  conv => lhs; unfold grow
  rw [if_neg h]
theorem take_sg {rs : List Nat} {j c : Nat} (h : rs[j]? = some c) : (rs.take j).map sg ++ [(⟨#[c]⟩ : Str)] = (rs.take (j + 1)).map sg := by
  rw [List.take_add_one, h, List.map_append]
  rfl
theorem take_c {rs : List Nat} {j c : Nat} (h : rs[j]? = some c) : rs.take j ++ [c] = rs.take (j + 1) := by
  rw [List.take_add_one, h]
  rfl
theorem drop_c {rs : List Nat} {j c : Nat} (h : rs[j]? = some c) : rs.drop j = c :: rs.drop (j + 1) := by
  obtain ⟨hj, e⟩ := List.getElem?_eq_some_iff.mp h
  rw [List.drop_eq_getElem_cons hj, e]

section
variable {w : World} {nk nw : Led} {p1 p2 : Array Value} {line dl : Addr} {tl : Tok} {mi : Int} {ti : Tok} {parts : List Str} {pie dpc : Addr} {tp tq : Tok} {pcs : List Str} {h₀ : Heap} {L : Addr} {s s₃ : Shared} {I : Addr} {oI : Obj} {m' : Str → Option Value}
theorem close_end {Inv : (Str → Option Value) → Led → Prop} (hsm : Sm s s₃) (F : Fr h₀ L s₃.heap m') (N : News h₀ L s₃.heap nw) (R : RS w ((I, oI) :: nk) p1 p2 line dl tl mi ti parts pie dpc tp tq pcs nw) (hc : oI.cls = .type "str_ascii_iterator") (hI : ∀ p ∈ nk, p.1 ≠ I)
    (h : RS w nk p1 p2 line dl tl mi ti parts pie dpc tp tq pcs (nw.filter (·.1 != I)) → Inv m' (nw.filter (·.1 != I))) : StrEnd h₀ L Inv I oI s s₃ :=
  ⟨hsm, m', nw, _, F, N, R.rl.kp _ (.head _), h (R.drop N hc hI), fun p hp => ⟨(List.mem_filter.mp hp).1, by simpa using (List.mem_filter.mp hp).2⟩⟩
theorem close_out {Out : (Str → Option Value) → Led → Prop} (hsm : Sm s s₃) (F : Fr h₀ L s₃.heap m') (N : News h₀ L s₃.heap nw) (R : RS w ((I, oI) :: nk) p1 p2 line dl tl mi ti parts pie dpc tp tq pcs nw) (hc : oI.cls = .type "str_ascii_iterator") (hI : ∀ p ∈ nk, p.1 ≠ I)
    (h : RS w nk p1 p2 line dl tl mi ti parts pie dpc tp tq pcs (nw.filter (·.1 != I)) → Out m' (nw.filter (·.1 != I))) : OutEnd h₀ L Out s s₃ :=
  ⟨hsm, m', _, F, fun p hp => N p (List.mem_filter.mp hp).1, h (R.drop N hc hI)⟩
theorem close_line {Inv : (Str → Option Value) → Led → Prop} (hsm : Sm s s₃) (F : Fr h₀ L s₃.heap m') (N : News h₀ L s₃.heap nw) (R : RL w ((I, oI) :: nk) p1 p2 line dl tl mi ti parts nw) (hc : oI.cls = .type "str_ascii_iterator") (hI : ∀ p ∈ nk, p.1 ≠ I)
    (h : RL w nk p1 p2 line dl tl mi ti parts (nw.filter (·.1 != I)) → Inv m' (nw.filter (·.1 != I))) : StrEnd h₀ L Inv I oI s s₃ :=
  ⟨hsm, m', nw, _, F, N, R.kp _ (.head _), h (R.drop N hc hI), fun p hp => ⟨(List.mem_filter.mp hp).1, by simpa using (List.mem_filter.mp hp).2⟩⟩
end

section
open Lean
def linesR : String → Tac
  | "call ref" => oneOf [
    line `applies_str "aaaaarwus0ss_" [`h', `tk', `F', `N'] (sp := [`(tactic| exact .cons _ _ (.cons _ _ (.cons _ _ (.cons _ _ .nil))))]) (tl := `(tactic| ((generalize hb9 : appl _ _ = b9); cases b9))),
    line `rs_pop "aaaaarwss_" [`r', `nw', `h', `tk', `F', `N', `R'],
    line `rs_count "aaaaarws_" [`t', `h', `tk', `F', `N'],
    line `rl_push "aaaaarwss_" [`nw', `h', `tk', `F', `N', `R'],
    line `rs_push "aaaaarwss_" [`nw', `h', `tk', `F', `N', `R'],
    line `rl_piece "aaaaarw0_" [`x', `dx', `t', `ti', `nw', `h', `tk', `F', `N', `R'] (sp := [rlCons]),
    line `acc_new1 "aaaaarwu_" [`x', `dx', `t', `h', `tk', `F', `N', `l1, `l2]]
  | "call type:str" => oneOf [
    line `rs_strq "aaaaarwu01rsss_" (sp := [`(tactic| exact RS.cons (by assumption)), `(tactic| exact .head _)]) (tl := intr [`tQ, `sQ, `nwQ, `smQ, `FQ, `NQ, `RQ, `hqQ]),
    line `rs_strp "aaaaarwussss_" (tl := intr [`tP, `sP, `nwP, `smP, `FP, `NP, `RP])]
  | "call builtin:len" => line `rl_len "aaaaarwu0sss_" [`t', `s', `nw', `hsm', `F', `N', `R'] (sp := [rlCons])
  | "getMethod ref" => line `rs_meth "aaa0i12_" (sp := [`(tactic| first | exact RS.pc (by assumption) | exact RL.ln (RS.rl (by assumption))), `(tactic| first | exact .inl (by k_is) | exact .inr (by k_is)), `(tactic| (unfold getL esI; rfl))])
  | "exec For" => `(tactic| (k_here; k_dflt (refine wpAny_For ?_)))
  | "eval ListComp" => `(tactic| (k_here; k_dflt (refine wpAny_ListComp_walk (fun _ => true) (fun v y => v = y) (by decide) (by decide) rfl (by decide) (by decide) ?_)))
  | "OutPost" => `(tactic| first | show StrEnd _ _ _ _ _ _ _ | show OutEnd _ _ _ _ _)
  | "StrPost" => `(tactic| show StrEnd _ _ _ _ _ _ _)
  | _ => Macro.throwUnsupported
where rlCons : Tac := `(tactic| first | assumption | exact RL.cons (by assumption))
end
local macro_rules | `(tactic| walk_at $k:str) => linesR k.getString
set_option maxHeartbeats 8000000 in
theorem read_c {w : World} {dp un : Nat} {gd : Option (List Code)} {cn : Str} {cs : Scope} {a : Addr} {ccd : Value} {cl : List (Str × Addr)} {outer : List Env} {A₀ : Around} {base h₀ : Heap} {L : Addr} {m : Str → Option Value} {s : Shared} {Q E : Value → Shared → Prop}
   {pg : Program} {ls : List Str} {mean : ExcName → Option Value} {mg mb : Str → Option Value} {nw nk : Led} {text : Str} {tt ti : Tok} {mi : Int} {p1 p2 : Array Value}
   (B : Below A₀ base outer h₀) (F : Fr h₀ L s.heap m) (X : (Mine.hd.heap_39 w.params).In h₀) (N : News h₀ L s.heap nw)
   (T : Top pg ls mean mg mb h₀) (hk : cs.kind = .function) (hd : dp + 6 < recursionLimit) (hu : un + 100 < cLine)
   (h1 : TabIn nw 105 p1) (h2 : TabIn nw 112 p2) (hkp : ∀ p ∈ nk, p ∈ nw) (hap : ∀ p ∈ nk, p.1 ≠ 105 ∧ p.1 ≠ 112) (hmi : 0 ≤ mi ∧ mi ≤ 1000) (hlen : text.length ≤ 100) (hasc : text.cps.all (· < 128) = true)
   (hret : ∀ D vs n s' nw', Sm s s' → Fr h₀ L s'.heap m → News h₀ L s'.heap nw' → (D, listOf vs.toArray n) ∈ nw' → TupsAre nw' vs (readN text text.cps.size) → TabIn nw' 105 p1 → TabIn nw' 112 p2 → (∀ p ∈ nk, p ∈ nw') → Q (.ref D) s') :
   wpAny (model PySem.Challenge.pw_rs0046_01 w) (ktrTop dp un gd cn cs L a ccd cl outer) (call (.ref 164) [.str text tt, .int mi ti]) Q E s := by
  refine wpAny_call ?_
  k_dflt cell_enter
  k_steps
  rename (Fr _ _ _ fun _ => _) => F1
  rename News _ _ _ (_ :: _) => N1
  rename Frag.In _ _ => X1
  rename Top _ _ _ _ _ _ => T1
  rename_i g0 g1 L1 h1' FG1 BB1 line dl tl hh1 tk1 l1 l2 h3
  have R0 : RL w nk p1 p2 line dl tl mi ti (readN text 0) ((line, accObj dl [] 0) :: (dl, dictOf (esI w tl mi ti) 1) :: nw) := by
    have lt : ∀ p ∈ nw, p.1 ≠ line := fun p hp => Nat.ne_of_lt (Nat.lt_trans (l1 p hp) l2)
    exact ⟨⟨[], 0, 1, .head _, .tail _ (.head _), rfl, fun _ => 0, fun _ => 0, fun _ => 0, fun j hj => absurd hj (Nat.not_lt_zero _)⟩, h1.mono fun _ hp => .tail _ (.tail _ hp), h2.mono fun _ hp => .tail _ (.tail _ hp), fun p hp => .tail _ (.tail _ (hkp p hp)), fun p hp => ⟨lt p (hkp p hp), hap p hp⟩⟩
  refine iter_str (fun i m' nw' => RL w nk p1 p2 line dl tl mi ti (readN text i) nw' ∧ m' (Str.ofString "text") = some (.str text tt) ∧ m' (Str.ofString "margin") = some (.int mi ti) ∧ m' (Str.ofString "line") = some (.ref line)) rfl hasc rfl rfl F1 N1 ⟨R0, rfl, rfl, rfl⟩ ?turn ?done
  case done =>
    rintro s4 m4 nw4 hsm4 ⟨R4, e1, e2, e3⟩ F4 N4
    rw [m_is3 e1 e2 e3] at F4
    clear F1 N1 R0
    (try dsimp only at F4)
    k_steps
    obtain ⟨vs, k, n, hl1, hl2, hl3⟩ := R4.ln
    have hb := readN_le text text.cps.size
    have hvl : vs.length ≤ 1000 := by
      rw [hl3.1]
      have : text.cps.size = text.length := rfl
      omega
    refine acc_pyIter (K := Mine.hd.heap_39 w.params) (X1.keeps F4.keep) (N4.get hl1) (by k_is) (by k_is) ?_
    have hlt := Heap.lt_size (N4.get hl1)
    refine ⟨s4.heap.objs.size, [s4.heap.objs.size, line], [s4.heap.objs.size], vs.toArray.size, _, _, rfl, walks_items rfl _ _ (Nat.ne_of_lt hlt) vs.toArray, (by rw [sizeLine_eq, List.size_toArray]; omega), ⟨⟨_, Heap.get?_push_size _ rfl, rfl, rfl⟩, (hasItems_acc (N4.get hl1)).at fun o e => Heap.get?_push_of_some _ e⟩, ?_, ⟨?_, ?_⟩, ?_⟩
    · intro b hb
      show b < (s4.heap.push _).objs.size
      rw [Heap.size_push]
      rcases List.mem_cons.mp hb with rfl | hb
      · exact Nat.lt_succ_self _
      · rw [List.mem_singleton.mp hb]; exact Nat.lt_succ_of_lt hlt
    · intro C i v s₃ m₃ E' _ _ _ _ _
      exact wpAny_pure ⟨rfl, ⟨_, _, rfl, fun _ _ e => e⟩⟩
    · intro C i v s₃ m₃ E' _ _ hn hm _ _
      exact wpAny_Name (wpAny_loadName_local rfl rfl hn hm ⟨rfl, ⟨_, _, rfl, fun _ _ e => e⟩⟩) (by decide)
    · intro D h' tk ys vs' hD hl hpl hlen' hP hF hk'
      have e1 : vs' = vs := by
        apply List.ext_getElem?
        intro j
        by_cases hj : j < vs'.length
        · have := hP j vs'[j] (by simp [hj])
          rw [List.getElem?_toArray] at this
          rw [this]; simp [hj]
        · rw [List.getElem?_eq_none (by omega), List.getElem?_eq_none (by rw [List.size_toArray] at hlen'; omega)]
      have e2 : ys = vs.toArray := by
        have : ∀ (a b : List Value), Paired (fun v y => v = y) a b → a = b := by
          intro a b h
          induction h with
          | nil => rfl
          | cons h _ ih => rw [h, ih]
        have h3 := this _ _ hF
        rw [List.filter_eq_self.mpr (fun _ _ => rfl), e1] at h3
        rw [h3]
      subst e2
      obtain ⟨nn, hDn⟩ := hpl
      have keep : ∀ b o, s4.heap.get? b = some o → h'.get? b = some o := fun b o e => hk' b o (fun hb => absurd (Heap.lt_size e) (by rw [List.mem_singleton.mp hb]; exact Nat.lt_irrefl _)) (Heap.get?_push_of_some _ e)
      have hD4 : ∀ o, s4.heap.get? D ≠ some o := fun o e => by rw [show _ = some o from Heap.get?_push_of_some _ e] at hD; cases hD
      have F9 := F4.keeps keep
      have N9 : News g0 g1 h' ((D, listOf vs.toArray nn) :: nw4) := by
        intro p hp
        rcases List.mem_cons.mp hp with rfl | hp
        · refine ⟨hDn, ?_, ?_⟩
          · rintro rfl
            obtain ⟨_, es, nx, ho, _⟩ := F4.ns
            exact hD4 _ ho
          · cases e : g0.get? D with
            | none => rfl
            | some o => exact absurd (F4.keep _ _ e) (hD4 o)
        · exact ⟨keep _ _ (N4 p hp).1, (N4 p hp).2⟩
      exact leaveK_ F9 N9 fun kF kN => hret D vs nn _ _ (Sm.trans Sm.same (Sm.trans hsm4 Sm.same)) kF kN (.head _) (hl3.mono fun _ hp => .tail _ hp) (R4.t1.mono fun _ hp => .tail _ hp) (R4.t2.mono fun _ hp => .tail _ hp) fun p hp => .tail _ (R4.kp p hp)
  case turn =>
    rintro E' i c t I oI s' m' nw' hsm hc hoI ⟨R1, hm1, hm2, hm3⟩ hI F2 N2
    rw [m_is3 hm1 hm2 hm3] at F2
    obtain ⟨hb1, hb2, hb3⟩ := readN_le text i
    have hb1' : ((readN text i).map (·.length)).sum ≤ 1000 := by rw [← cat_length]; omega
    have hb2' : ∀ p ∈ readN text i, p.length ≤ 100 := fun p hp => Nat.le_trans (hb2 p hp) hlen
    have R1' := (RL.cons (q := (I, oI)) R1).keep N2 (.head _) hoI
    have hnkI : ∀ p ∈ nk, p.1 ≠ I := fun p hp => hI p (R1.kp p hp)
    clear F1 N1 R0 R1
    dsimp only at F2
    k_steps
    rename (Fr _ _ _ fun _ => _) => F3
    rename News _ _ _ _ => N3
    rename RS _ _ _ _ _ _ _ _ _ _ _ _ _ _ _ _ => R3
    rename Sm s' _ => hsm3
    rename_i tr kk hsl h2b pie dpc tp tq nw3 h3a tk3a h3b
    rw [slice_rest hb1] at F3 ⊢
    have hrl : (restOf text (readN text i)).length ≤ 100 := by
      unfold restOf; rw [List.length_drop]; have : text.cps.toList.length = text.length := by simp [Str.length]
      omega
    have hra : (restOf text (readN text i)).toArray.all (· < 128) = true := by
      rw [List.all_toArray]
      rw [← Array.all_toList] at hasc
      exact List.all_eq_true.mpr fun x hx => List.all_eq_true.mp hasc x (List.mem_of_mem_drop hx)
    generalize hrs : restOf text (readN text i) = rs at *
    have hagr := grow_le (okAt (cat (readN text i))) rs []
    refine iter_out (fun j m' nw' => RS w ((I, oI) :: nk) p1 p2 line dl tl mi ti (readN text i) pie dpc tp tq ((rs.take j).map sg) nw' ∧ m' (Str.ofString "text") = some (.str text tt) ∧ m' (Str.ofString "margin") = some (.int mi ti) ∧ m' (Str.ofString "line") = some (.ref line) ∧ m' (Str.ofString "rest") = some (.str ⟨rs.toArray⟩ tr) ∧ m' (Str.ofString "piece") = some (.ref pie) ∧
        grow (okAt (cat (readN text i))) (rs.take j) (rs.drop j) = grow (okAt (cat (readN text i))) [] rs)
      (fun m' nw' => RS w ((I, oI) :: nk) p1 p2 line dl tl mi ti (readN text i) pie dpc tp tq ((grow (okAt (cat (readN text i))) [] rs).map sg) nw' ∧ m' (Str.ofString "text") = some (.str text tt) ∧ m' (Str.ofString "margin") = some (.int mi ti) ∧ m' (Str.ofString "line") = some (.ref line) ∧ m' (Str.ofString "rest") = some (.str ⟨rs.toArray⟩ tr) ∧ m' (Str.ofString "piece") = some (.ref pie))
      rfl hra rfl rfl F3 N3 ⟨R3, rfl, rfl, rfl, rfl, rfl, rfl⟩ ?turn2 ?fin2 ?after2
    case fin2 =>
      rintro m4 nw4 ⟨R4, e1, e2, e3, e4, e5, e6⟩
      have e7 : (⟨rs.toArray⟩ : Str).cps.size = rs.length := by simp
      rw [e7, List.take_length] at R4 e6
      rw [List.drop_length] at e6
      have e8 : grow (okAt (cat (readN text i))) rs [] = rs := rfl
      rw [e8] at e6
      rw [← e6]
      exact ⟨R4, e1, e2, e3, e4, e5⟩
    case after2 =>
      rintro s4 m4 nw4 hsm4 ⟨R4, e1, e2, e3, e4, e5⟩ F4 N4
      rw [m_is5 e1 e2 e3 e4 e5] at F4
      have c1 := len_sg (grow (okAt (cat (readN text i))) [] rs)
      have c2 := sum_sg (grow (okAt (cat (readN text i))) [] rs)
      have c3 : (((grow (okAt (cat (readN text i))) [] rs).map sg).map (·.length)).sum ≤ 1000 := by rw [c2]; simp at hagr; omega
      have c4 : ((grow (okAt (cat (readN text i))) [] rs).map sg).length ≤ 1000 := by rw [List.length_map]; simp at hagr; omega
      have hi1 : i < text.length := (Array.getElem?_eq_some_iff.mp hc).1
      have c5 : (readN text i).length < 1000 := by omega
      clear F3 N3 R3 F2 N2 R1' c2
      (try dsimp only at F4)
      k_steps
      · rename News _ _ _ _ => N9
        rename RL _ _ _ _ _ _ _ _ _ _ _ => R9
        rename _ ≠ (0 : Int) => hne
        have er : readN text (i + 1) = readN text i ++ [cat ((grow (okAt (cat (readN text i))) [] rs).map sg)] := by
          show stepR text (readN text i) = _
          unfold stepR
          rw [hrs, if_neg (by rintro rfl; exact hne rfl), cat_sg]
        exact close_line (Sm.trans hsm (Sm.trans hsm3 (Sm.trans Sm.same (Sm.trans hsm4 (Sm.trans Sm.same (Sm.trans smP Sm.same)))))) (by assumption) N9 R9 hoI hnkI fun R10 => ⟨er ▸ R10, rfl, rfl, rfl⟩
      · rename _ = (0 : Int) => hne
        have hnil : rs = [] := by
          cases rs with
          | nil => rfl
          | cons c r => exact absurd hne (by show ((List.toArray (c :: r)).size : Int) ≠ 0; rw [List.size_toArray, List.length_cons]; omega)
        have er : readN text (i + 1) = readN text i := by
          show stepR text (readN text i) = _
          unfold stepR
          rw [hrs, if_pos hnil]
        exact close_line (Sm.trans hsm (Sm.trans hsm3 (Sm.trans Sm.same (Sm.trans hsm4 Sm.same)))) F4 N4 R4.rl hoI hnkI fun R10 => ⟨er ▸ R10, rfl, rfl, rfl⟩
    case turn2 =>
      rintro E2 j c2 t2 I2 oI2 s4 m4 nw4 hsm4 hc2 hoI2 ⟨R4, e1, e2, e3, e4, e5, e6⟩ hI2 F4 N4
      rw [m_is5 e1 e2 e3 e4 e5] at F4
      have R4' := (RS.cons (q := (I2, oI2)) R4).keep N4 (.head _) hoI2
      have hc2' : rs[j]? = some c2 := by simpa using hc2
      have hI2' : ∀ p ∈ (I, oI) :: nk, p.1 ≠ I2 := fun p hp => hI2 p (R4.rl.kp p hp)
      have ec : cat ((rs.take j).map sg ++ [(⟨#[c2]⟩ : Str)]) = ⟨(rs.take j ++ [c2]).toArray⟩ := by rw [take_sg hc2', cat_sg, take_c hc2']
      rw [drop_c hc2'] at e6
      have hj : j < rs.length := (List.getElem?_eq_some_iff.mp hc2').1
      have d0 : ((rs.take j).map sg).length < 1000 := by rw [List.length_map, List.length_take]; omega
      have d1 : ∀ p ∈ (rs.take j).map sg ++ [(⟨#[c2]⟩ : Str)], p.length ≤ 100 := by rw [take_sg hc2']; exact len_sg _
      have d2 : (((rs.take j).map sg ++ [(⟨#[c2]⟩ : Str)]).map (·.length)).sum ≤ 1000 := by rw [take_sg hc2', sum_sg, List.length_take]; omega
      have d3 : ((rs.take j).map sg ++ [(⟨#[c2]⟩ : Str)]).length ≤ 1000 := by rw [take_sg hc2', List.length_map, List.length_take]; omega
      have d4 : ∀ a ∈ [Str.ofString "c", Str.ofString "*", cat ((rs.take j).map sg ++ [(⟨#[c2]⟩ : Str)]), Str.ofString "C"], a.length ≤ 100 := by
        intro a ha
        have h3 : (cat ((rs.take j).map sg ++ [(⟨#[c2]⟩ : Str)])).length ≤ 100 := by rw [cat_length, take_sg hc2', sum_sg, List.length_take]; omega
        simp only [List.mem_cons, List.not_mem_nil, or_false] at ha
        rcases ha with rfl | rfl | rfl | rfl
        · decide
        · decide
        · exact h3
        · decide
      have d5 : (cat (readN text i)).length ≤ 100 := by omega
      have d6 : (readN text i).length ≤ 1000 := by
        have hi1 : i < text.length := (Array.getElem?_eq_some_iff.mp hc).1
        omega
      clear F3 N3 R3 F2 N2 R1' R4
      (try dsimp only at F4)
      k_steps
      · rename News _ _ _ _ => N9
        rename RS _ _ _ _ _ _ _ _ _ _ _ _ _ _ _ _ => R9
        rename appl _ _ = _ => hb
        rename (1 : Int) < _ => hgt
        rw [ec] at hb
        have hg1 : 1 < (rs.take j ++ [c2]).length := by simp at hgt ⊢; omega
        rw [grow_stop hg1 hb] at e6
        refine close_out (Sm.trans (Sm.trans hsm4 (Sm.trans Sm.same smP)) (Sm.trans Sm.same (Sm.trans smQ Sm.same))) (by assumption) N9 R9 hoI2 hI2' fun R10 => ⟨?_, rfl, rfl, rfl, rfl, rfl⟩
        rw [← e6]
        exact R10
      · rename News _ _ _ _ => N9
        rename RS _ _ _ _ _ _ _ _ _ _ _ _ _ _ _ _ => R9
        rename appl _ _ = _ => hb
        rw [ec] at hb
        rw [grow_on (by intro h; have := h.2.symm.trans hb; cases this), take_c hc2'] at e6
        rw [take_sg hc2'] at R9
        exact close_end (Sm.trans (Sm.trans hsm4 (Sm.trans Sm.same smP)) (Sm.trans Sm.same (Sm.trans smQ Sm.same))) (by assumption) N9 R9 hoI2 hI2' fun R10 => ⟨R10, rfl, rfl, rfl, rfl, rfl, e6⟩
      · rename News _ _ _ _ => N9
        rename RS _ _ _ _ _ _ _ _ _ _ _ _ _ _ _ _ => R9
        have hg1 : ¬ 1 < (rs.take j ++ [c2]).length := by
          simp at *
          omega
        rw [grow_on (fun h => hg1 h.1), take_c hc2'] at e6
        rw [take_sg hc2'] at R9
        exact close_end (Sm.trans hsm4 Sm.same) (by assumption) N9 R9 hoI2 hI2' fun R10 => ⟨R10, rfl, rfl, rfl, rfl, rfl, e6⟩
end
section
open PySem PySem.W PyProof.Rows
open PySem.Spec PySem.Calls
set_option maxRecDepth 100000
section
variable {prog : Program} {w : World} {A₀ A : Around} {s : Shared} {base h₀ : Heap} {outer : List Env} {L : Addr} {m : Str → Option Value} {env : Env} {K : Frag}
  {R : Result → Shared → Prop} {name qual : Str} {params : Arguments} {body : List Stmt} {scope : Scope} {dV kV doc pm cdv ct oc : Value} {an od : Option Addr} {osl : Array (Option Value)} {f : Addr} {args : Args} {binds : List (Str × Value)}
  {pg : Program} {ls : List Str} {mean : ExcName → Option Value} {mg mb : Str → Option Value}
/-- a def with cells is entered; all that the heap holds is the ground -/
theorem enter_cells (B : Below A₀ base outer h₀) (F : Fr h₀ L s.heap m) (X₀ : K.In h₀) (T : Top pg ls mean mg mb h₀) (hA : A.frames = some (env :: outer)) (hf : env.frame = some L) (hke : env.scope.kind = .function)
    (ho : K.lookup f = some ⟨oc, od, .func (fnOf name qual params body scope dV kV doc pm an cdv ct), osl⟩) (hcd : codeIn K cdv qual = true) (hroom : A.depth < recursionLimit)
    (hbind : BindsTo s (fnOf name qual params body scope dV kV doc pm an cdv ct) args binds) (hkind : (binds.all fun y => scope.names.lookup y.1 == some .local || scope.names.lookup y.1 == some .cell) = true)
    (hnd : ((cellsFrom 0 scope.names []).map (·.1)).Nodup)
    (h : ∀ L' h₁ tk cells, Fr s.heap L' h₁ (bindL (envOfC qual scope L' f cdv).kindOf binds fun _ => none) → News s.heap L' h₁ cells →
      CellsAre (bindC (envOfC qual scope L' f cdv).kindOf binds fun _ => none) (cellsFrom (L' + 1) scope.names []) cells → Below A base (env :: outer) s.heap → K.In s.heap → Top pg ls mean mg mb s.heap →
      wpAny (model prog w) (A.deeper (envOfC qual scope L' f cdv)) (execs body (envOfC qual scope L' f cdv))
        (fun fl s' => R (.ok (.ret (match fl with | .ret v => v | _ => .none))) s')
        (fun e s' => wpAny (model prog w) (A.deeper (envOfC qual scope L' f cdv)) (leaving (envOfC qual scope L' f cdv) e) (fun _ s'' => R (.error e) s'') (fun e' s'' => R (.error e') s'') s')
        { s with heap := h₁, toks := tk })
    (hco : scope.isCoroutine = false) (hgen : scope.isGenerator = false) (hk : scope.kind = .function) : codeAny (model prog w) A (.call (.ref f) args) R s := by
  obtain ⟨_, BG, st, _⟩ := groundX (news := []) (R := R) B F News.nil hA hf hke
  have XS := X₀.keeps F.keep
  refine codeAny_call_function hroom (XS _ _ ho) rfl hco hgen rfl (codeRec_of XS hcd) (hbind _ _ _ _ ?_)
  refine wpAny_newFunctionEnv_cells hk (kindsX hkind _) fun env' he s' x => ?_
  subst he
  refine ⟨(T.nolimit.keeps F.keep).keeps x.toInCall.keep, codeAny_func ?_⟩
  obtain ⟨h₁, tk, rfl, _⟩ := x.done
  obtain ⟨cells, NC, Y⟩ := Cl.news (h₀ := s.heap) (Nat.le_refl _) fun n c hm => ⟨x.cell n c (lookup_of_mem_nodup (cellsFrom_names scope.names 0 (s.heap.objs.size + 1) [] [] rfl ▸ hnd) hm), x.above n c hm⟩
  exact h s.heap.objs.size h₁ tk cells ⟨x.toInCall.ns, x.toInCall.keep, Nat.le_refl _⟩ NC Y BG XS (T.keeps F.keep)
end
end
section
open PySem PySem.W PyProof.Rows
open PySem.Spec PySem.Calls
set_option maxRecDepth 100000
/-- the end of a turn of a loop over a range whose variable is a cell -/
def RngEnd (h₀ : Heap) (L : Addr) (Inv : (Str → Option Value) → List (Addr × Obj) → Prop) (I c : Addr) (oI : Obj) (s s₃ : Shared) : Prop :=
  ∃ h tk m' all nw' o v, s₃ = { s with heap := h, toks := tk } ∧ Fr h₀ L h m' ∧ News h₀ L h all ∧ (I, oI) ∈ all ∧ (c, o) ∈ all ∧ o.data = .cell v ∧ Inv m' nw' ∧ ∀ p ∈ nw', p ∈ all ∧ p.1 ≠ I ∧ p.1 ≠ c
def RngPost (h₀ : Heap) (L : Addr) (Inv : (Str → Option Value) → List (Addr × Obj) → Prop) (I c : Addr) (oI : Obj) (s : Shared) (f : Flow) (s₃ : Shared) : Prop :=
  match f with
  | .ret _ => False
  | .brk => False
  | _ => RngEnd h₀ L Inv I c oI s s₃
abbrev rngObj (x left : Int) : Obj := { cls := .type "range_iterator", dict := none, data := .fields #[rawInt x, rawInt left, rawInt 1], slots := #[] }
section
variable {prog : Program} {w : World} {A : Around} {E : Value → Shared → Prop} {s : Shared} {h₀ : Heap}
theorem iter_rng {env : Env} {x : Str} {c : Addr} {px : Pos} {body : List Stmt} {r : Addr} {a b : Int} {t u v : Tok} {n : Nat} {Qf : Flow → Shared → Prop} {m : Str → Option Value} {nw : List (Addr × Obj)} {o0 : Obj} {v0 : Option Value}
   (Inv : Nat → (Str → Option Value) → List (Addr × Obj) → Prop)
   (hh : A.handled = none) (hr : IsRange s.heap r a b 1 t u v) (hsmall : Builtin.Range.small a b 1 = true) (hsize : Builtin.Range.rangeSize a b 1 = n) (hk : env.scope.kind = .function) (hl : env.kindOf x = some .cell) (hc : env.cells.lookup x = some c)
   (F : Fr h₀ env.locals s.heap m) (N : News h₀ env.locals s.heap ((c, o0) :: nw)) (hd0 : o0.data = .cell v0) (hne : ∀ p ∈ nw, p.1 ≠ c) (h0 : Inv 0 m nw)
   (turn : ∀ E' i t I o' h tk m' nw', i < n → Inv i m' nw' → (∀ p ∈ nw', p.1 ≠ I ∧ p.1 ≠ c) → I ≠ c → o'.data = .cell (some (.int (a + i) t)) →
      Fr h₀ env.locals h m' → News h₀ env.locals h ((I, rngObj (a + (i + 1 : Nat)) ((n : Int) - (i + 1 : Nat))) :: (c, o') :: nw') →
      wpAny (model prog w) A (execs body env) (RngPost h₀ env.locals (Inv (i + 1)) I c (rngObj (a + (i + 1 : Nat)) ((n : Int) - (i + 1 : Nat))) s) E' { s with heap := h, toks := tk })
   (done : ∀ h tk m' nw' o v, Inv n m' nw' → Fr h₀ env.locals h m' → News h₀ env.locals h ((c, o) :: nw') → o.data = .cell v → (∀ p ∈ nw', p.1 ≠ c) → Qf .next { s with heap := h, toks := tk }) :
   wpAny (model prog w) A (pyIter (.ref r)) (fun it s₂ => codeAny (model prog w) A (.forLoop (.Name x px) it body [] env) (fun r s' => match r with | .ok f => Qf f s' | .error e => cameBackBy (model prog w) A env E e s') s₂) E s := by
  refine wpAny_pyIter_range hr hsmall ?_
  rw [hsize]
  have W := Walks.range (prog := prog) (w := w) hh s.heap.objs.size a 1 n
  have hnone : h₀.get? s.heap.objs.size = none := by
    cases e : h₀.get? s.heap.objs.size with
    | none => rfl
    | some o => exact absurd (Heap.lt_size (F.keep _ _ e)) (Nat.lt_irrefl _)
  have hLI : env.locals ≠ s.heap.objs.size := Nat.ne_of_lt F.ns.lt
  have hcI : s.heap.objs.size ≠ c := (Nat.ne_of_lt (Heap.lt_size (N _ (.head _)).1)).symm
  have hcL := (N _ (.head _)).2.1
  have hc0 := (N _ (.head _)).2.2
  refine codeAny_forLoop (fun k s' => ∃ h tk i m' nw' o v, s' = { s with heap := h, toks := tk } ∧ k + i = n ∧ IsRangeIter h s.heap.objs.size (a + (i : Nat) * 1) ((n : Int) - (i : Nat)) 1 ∧ Fr h₀ env.locals h m' ∧ News h₀ env.locals h ((c, o) :: nw') ∧ o.data = .cell v ∧ Inv i m' nw' ∧ ∀ p ∈ nw', p.1 ≠ s.heap.objs.size ∧ p.1 ≠ c) ?_ n ?_
  · rintro k s₁ ⟨h₁, tk₁, i, m₁, nw₁, o₁, v₁, rfl, hni, hit, F₁, N₁, hd₁, hI, hne₁⟩
    cases k with
    | zero =>
      have : i = n := by omega
      subst this
      refine W.done _ _ _ hit fun h' tk hk' => ?_
      refine wpAny_execs_nil ?_
      refine done h' tk m₁ nw₁ o₁ v₁ hI ⟨F₁.ns.at fun o e => hk' _ o (fun hm => hLI (List.mem_singleton.mp hm)) e, fun b o e => hk' b o (fun hm => by rw [List.mem_singleton.mp hm, hnone] at e; cases e) (F₁.keep b o e), F₁.above⟩ ?_ hd₁ fun p hp => (hne₁ p hp).2
      intro p hp
      refine ⟨hk' _ _ (fun hm => ?_) (N₁ p hp).1, (N₁ p hp).2⟩
      rcases List.mem_cons.mp hp with rfl | hp
      · exact hcI (List.mem_singleton.mp hm).symm
      · exact (hne₁ p hp).1 (List.mem_singleton.mp hm)
    | succ k =>
      refine W.item i _ _ _ (by omega) hit fun v h' tk hv hit' hk' => ?_
      obtain ⟨t, rfl⟩ := hv
      have hcg : h'.get? c = some o₁ := hk' _ _ (fun hm => hcI (List.mem_singleton.mp hm).symm) (N₁ _ (.head _)).1
      refine wpAny_assign_Name (wpAny_storeName_cell hk hl hc ⟨o₁, hcg, hd₁⟩ fun h₂ hv₂ hs₂ => ?_)
      obtain ⟨o₂, ho₂, hd₂⟩ := hv₂
      have keep₂ : ∀ b o, b ≠ s.heap.objs.size → b ≠ c → h₁.get? b = some o → h₂.get? b = some o := fun b o e1 e2 e => (hs₂.2 b e2).trans (hk' b o (fun hm => e1 (List.mem_singleton.mp hm)) e)
      have F₂ : Fr h₀ env.locals h₂ m₁ := ⟨F₁.ns.at fun o e => keep₂ _ o hLI (fun e' => hcL e'.symm) e, fun b o e => keep₂ b o (fun h => by rw [h, hnone] at e; cases e) (fun h => by rw [h, hc0] at e; cases e) (F₁.keep b o e), F₁.above⟩
      have hI₂ : h₂.get? s.heap.objs.size = some (rngObj (a + (i + 1 : Nat)) ((n : Int) - (i + 1 : Nat))) := by
        rw [hs₂.2 _ hcI]
        have := hit'
        rw [Int.mul_one] at this
        exact this
      have N₂ : News h₀ env.locals h₂ ((s.heap.objs.size, rngObj (a + (i + 1 : Nat)) ((n : Int) - (i + 1 : Nat))) :: (c, o₂) :: nw₁) := by
        intro p hp
        rcases List.mem_cons.mp hp with rfl | hp
        · exact ⟨hI₂, hLI.symm, hnone⟩
        · rcases List.mem_cons.mp hp with rfl | hp
          · exact ⟨ho₂, hcL, hc0⟩
          · exact ⟨keep₂ _ _ (hne₁ p hp).1 (hne₁ p hp).2 (N₁ p (.tail _ hp)).1, (N₁ p (.tail _ hp)).2⟩
      rw [Int.mul_one] at hd₂
      refine wpAny_mono (turn _ i t s.heap.objs.size o₂ h₂ _ m₁ nw₁ (by omega) hI hne₁ hcI hd₂ F₂ N₂) (fun f s₃ p => ?_) fun _ _ e => e
      have fin : RngEnd h₀ env.locals (Inv (i + 1)) s.heap.objs.size c (rngObj (a + (i + 1 : Nat)) ((n : Int) - (i + 1 : Nat))) s s₃ → ∃ k', k' < k + 1 ∧ ∃ h tk i m' nw' o v, s₃ = { s with heap := h, toks := tk } ∧ k' + i = n ∧ IsRangeIter h s.heap.objs.size (a + (i : Nat) * 1) ((n : Int) - (i : Nat)) 1 ∧ Fr h₀ env.locals h m' ∧ News h₀ env.locals h ((c, o) :: nw') ∧ o.data = .cell v ∧ Inv i m' nw' ∧ ∀ p ∈ nw', p.1 ≠ s.heap.objs.size ∧ p.1 ≠ c := by
        rintro ⟨h, tk, m', all, nw', o, v, rfl, F₃, N₃, hI₃, hc₃, hd₃, hInv, hsub⟩
        refine ⟨k, Nat.lt_succ_self _, h, tk, i + 1, m', nw', o, v, rfl, by omega, ?_, F₃, ?_, hd₃, hInv, fun p hp => (hsub p hp).2⟩
        · rw [Int.mul_one]; exact (N₃ _ hI₃).1
        · intro p hp
          rcases List.mem_cons.mp hp with rfl | hp
          · exact N₃ _ hc₃
          · exact N₃ p (hsub p hp).1
      cases f with
      | ret v => exact p.elim
      | brk => exact p.elim
      | next => exact fin p
      | cont => exact fin p
  · refine ⟨_, _, 0, m, nw, o0, v0, rfl, rfl, ?_, F.keeps fun _ _ e => Heap.get?_push_of_some _ e, fun p hp => ⟨Heap.get?_push_of_some _ (N p hp).1, (N p hp).2⟩, hd0, h0, fun p hp => ⟨Nat.ne_of_lt (Heap.lt_size (N p (.tail _ hp)).1), hne p hp⟩⟩
    have e1 : a + ((0 : Nat) : Int) * 1 = a := by omega
    have e2 : (n : Int) - ((0 : Nat) : Int) = n := by omega
    rw [e1, e2]
    exact Heap.get?_push_size _ rfl
end
end
section
open PySem PySem.W PyProof.Rows
open PySem.Spec PySem.Calls
set_option maxRecDepth 100000
theorem isInt_at {k : Int} : ∀ {vs : List Value} {ns : List Int}, IntsAre vs ns → ∀ (j : Nat) (h : j < vs.length), ∃ h' : j < ns.length, isInt k vs[j] = (ns[j] == k)
  | _, _, .nil, j, h => absurd h (Nat.not_lt_zero _)
  | _, _, .cons n t r, j, h => by
    cases j with
    | zero => exact ⟨Nat.succ_pos _, rfl⟩
    | succ j =>
      obtain ⟨h', e⟩ := isInt_at (k := k) r j (Nat.lt_of_succ_lt_succ h)
      exact ⟨Nat.succ_lt_succ h', e⟩
section
variable {prog : Program} {w : World} {A : Around} {E : Value → Shared → Prop} {s : Shared}
theorem call_index {D : Addr} {ws : List Value} {ns : List Int} {c : Nat} {k : Int} {t : Tok} {Q : Value → Shared → Prop} (hD : s.heap.get? D = some (listOf ws.toArray c)) (hi : IntsAre ws ns) (hk : k ∈ ns) (hfit : ns.length ≤ 1000)
    (hQ : Q (.int (ns.findIdx (· == k) : Nat) s.toks) { s with toks := s.toks + 1 }) : wpAny (model prog w) A (call (.builtin "list.index") [.ref D, .int k t]) Q E s := by
  have hlt : ns.findIdx (· == k) < ns.length := List.findIdx_lt_length_of_exists ⟨k, hk, by simp⟩
  have hlen := hi.length
  have hj : ns.findIdx (· == k) < ws.toArray.size := by rw [List.size_toArray, hlen]; exact hlt
  refine call_meets F.slot_list_index ⟨_, hD, rfl⟩ F.entry_list_index (F.args_list_index_2 _ _) (MeetsSeq.list_index D ws.toArray c (.int k t) (isInt k) (fun y hy => eq_isInt k t hi y (by simpa using hy)) (ns.findIdx (· == k)) hj (by omega) ?_ ?_) ⟨hD, hQ⟩
  · obtain ⟨h', e⟩ := isInt_at (k := k) hi (ns.findIdx (· == k)) (by simpa using hj)
    rw [List.getElem_toArray, e]
    exact List.findIdx_getElem (w := hlt) (p := (· == k))
  · intro m hm hmj
    obtain ⟨h', e⟩ := isInt_at (k := k) hi m (by simpa using hm)
    rw [List.getElem_toArray, e]
    have := List.not_of_lt_findIdx hmj
    simpa using this
end
end
section
open PySem PySem.W PyProof.Rows
open PySem.Spec PySem.Calls
set_option maxRecDepth 100000
open LCg LCt
section
variable {prog : Program} {w : World} {A : Around} {s : Shared} {h₀ : Heap} {L : Addr} {m : Str → Option Value} {env : Env} {ct elt : Expr} {x : Str} {scope : Scope} {cl : List (Str × Addr)} {S : List (Addr × Obj) → Prop} {P : Nat → Value → Prop} {Fin : List Value → List (Addr × Obj) → Prop} {nw : List (Addr × Obj)} {n : Nat}
theorem compEnd_mono {s₁ s₂ : Shared} {I C D : Addr} {oI oC oD : Obj} {r r' : Value → List (Addr × Obj) → Prop} {y : Value} (h : ∀ y nw', r y nw' → r' y nw') (H : CompEnd h₀ L m s₁ I oI C oC D oD S r y s₂) : CompEnd h₀ L m s₁ I oI C oC D oD S r' y s₂ := by
  obtain ⟨h', tk, news', e, F, N, off, hS, hr⟩ := H
  exact ⟨h', tk, news', e, F, N, off, hS, h _ _ hr⟩
/-- the turns of a comprehension with a test, by an invariant -/
theorem rest_ind (Inv : Nat → List Value → Prop)
    (step : ∀ i ys, i < n → Inv i ys → ∀ v I oI C oC D m₂ h tk (E' : Value → Shared → Prop), P i v → NsObj oC m₂ → m₂ x = some v → Fr h₀ L h m → News h₀ L h ((I, oI) :: (C, oC) :: (D, lst ys) :: nw) → Off3 I C D nw → ((@Ne Nat I C) ∧ (@Ne Nat I D) ∧ (@Ne Nat C D)) →
      wpAny (model prog w) A (isTrue ct (compEnvC scope cl C env) (eval ct (compEnvC scope cl C env))) (fun ok s' => if ok = true then
        wpAny (model prog w) A (eval elt (compEnvC scope cl C env)) (CompEnd h₀ L m { s with heap := h, toks := tk } I oI C oC D (lst ys) S (fun y nw' => nw' = nw ∧ Inv (i + 1) (ys ++ [y]))) E' s'
        else CompEnd h₀ L m { s with heap := h, toks := tk } I oI C oC D (lst ys) S (fun _ nw' => nw' = nw ∧ Inv (i + 1) ys) Value.none s') E' { s with heap := h, toks := tk })
    (fin : ∀ ys, Inv n ys → Fin ys nw) (h0 : Inv 0 []) : CompRestT prog w A h₀ L m env ct elt x scope cl s S P Fin n 0 [] nw := by
  have key : ∀ k i ys, i + k = n → Inv i ys → CompRestT prog w A h₀ L m env ct elt x scope cl s S P Fin k i ys nw := by
    intro k
    induction k with
    | zero =>
      intro i ys hk hI
      have : i = n := by omega
      subst this
      exact CompRestT.zero (fin ys hI)
    | succ k ih =>
      intro i ys hk hI
      refine CompRestT.succ fun v I oI C oC D m₂ h tk E' hP hN hm F N off ne => ?_
      refine wpAny_mono (step i ys (by omega) hI v I oI C oC D m₂ h tk E' hP hN hm F N off ne) (fun ok s' hok => ?_) fun _ _ e => e
      cases ok with
      | true =>
        rw [if_pos rfl] at hok ⊢
        exact wpAny_mono hok (fun y s'' H => compEnd_mono (fun y nw' ⟨e, hi⟩ => e ▸ ih (i + 1) _ (by omega) hi) H) fun _ _ e => e
      | false =>
        rw [if_neg (by decide)] at hok ⊢
        exact compEnd_mono (fun y nw' ⟨e, hi⟩ => e ▸ ih (i + 1) _ (by omega) hi) hok
  exact key n 0 [] (by omega) h0
end
end
section
open PySem PySem.W PyProof.Rows
open PySem.Spec PySem.Calls
set_option maxRecDepth 100000
open LCg
abbrev cellObj (v : Option Value) : Obj := { cls := .type "cell", data := .cell v }
section
variable {M : Model} {A : Around} {E : Value → Shared → Prop} {s : Shared}
theorem newEnv_around {scope : Scope} {globals : Addr} {cl : List (Str × Addr)} {qual : Str} {env : Env} {Q : Env → Shared → Prop}
    (hQ : Q { scope := scope, locals := s.heap.objs.size, globals := globals, cells := cellsFrom (s.heap.objs.size + 1) scope.names cl, qual := qual, func := none, code := env.code, frame := env.frame, builtins := env.builtins } { s with heap := pushCells (s.heap.push { cls := .type "dict", data := .dict #[] }) scope.names }) :
    wpAny M A (newFunctionEnv scope globals cl [] qual none .none (some env)) Q E s := by
  simp only [newFunctionEnv, Option.isSome_some, if_true]
  refine wpAny_bind (wpAny_alloc ?_)
  refine wpAny_bind (wpAny_layCells _ (fun name kind cells => by cases hkc : kind == NameKind.cell <;> simp [hkc]) _ _ _ _ ?_)
  rw [show ({ s with heap := s.heap.push { cls := .type "dict", data := .dict #[] } } : Shared).heap.objs.size = s.heap.objs.size + 1 from Heap.size_push ..]
  simp only [List.forIn_nil]
  exact wpAny_bind (wpAny_pure (wpAny_pure hQ))
end
section
variable {prog : Program} {w : World} {A : Around} {E : Value → Shared → Prop} {s : Shared} {h₀ : Heap} {L : Addr} {m : Str → Option Value} {env : Env}
/-- the end of a turn of a comprehension whose variable is a cell -/
def CcEnd (h₀ : Heap) (L : Addr) (m : Str → Option Value) (s₁ : Shared) (all : List (Addr × Obj)) (P : Value → Prop) (y : Value) (s₂ : Shared) : Prop :=
  ∃ h' tk all', s₂ = { s₁ with heap := h', toks := tk } ∧ Fr h₀ L h' m ∧ News h₀ L h' all' ∧ (∀ p ∈ all, p ∈ all') ∧ P y
def CcTurn (prog : Program) (w : World) (A : Around) (h₀ : Heap) (L : Addr) (m : Str → Option Value) (env : Env) (elt : Expr) (x : Str) (scope : Scope) (cl : List (Str × Addr)) (s : Shared) (a : Int) (n : Nat) (nw : List (Addr × Obj)) (Inv : Nat → List Value → Prop) : Prop :=
  ∀ E' i ys I oI C oC c oc D h tk t, i < n → Inv i ys → oc.data = .cell (some (.int (a + (i : Int)) t)) → Fr h₀ L h m → News h₀ L h ((I, oI) :: (C, oC) :: (c, oc) :: (D, lst ys) :: nw) →
    (@Ne Nat I C ∧ @Ne Nat I c ∧ @Ne Nat I D ∧ @Ne Nat C c ∧ @Ne Nat C D ∧ @Ne Nat c D) → (∀ p ∈ nw, p.1 ≠ I ∧ p.1 ≠ C ∧ p.1 ≠ c ∧ p.1 ≠ D) → (∃ m₂, NsObj oC m₂) →
      wpAny (model prog w) A (eval elt (compEnvC scope ((x, c) :: cl) C env)) (CcEnd h₀ L m s ((I, oI) :: (C, oC) :: (c, oc) :: (D, lst ys) :: nw) (fun y => Inv (i + 1) (ys ++ [y]))) E' { s with heap := h, toks := tk }
def CcSrc (prog : Program) (w : World) (A : Around) (h₀ : Heap) (L : Addr) (m : Str → Option Value) (env : Env) (elt : Expr) (x : Str) (scope : Scope) (cl : List (Str × Addr)) (Q : Value → Shared → Prop) (xv : Value) (s₁ : Shared) : Prop :=
  ∃ r a b t u v n nw, xv = .ref r ∧ A.handled = none ∧ Fr h₀ L s₁.heap m ∧ News h₀ L s₁.heap nw ∧ IsRange s₁.heap r a b 1 t u v ∧ Builtin.Range.small a b 1 = true ∧ Builtin.Range.rangeSize a b 1 = ((n : Nat) : Int) ∧ n ≤ sizeLine ∧
    ∃ Inv : Nat → List Value → Prop, Inv 0 [] ∧ CcTurn prog w A h₀ L m env elt x scope cl s₁ a n nw Inv ∧
      ∀ ys D h tk, Inv n ys → Fr h₀ L h m → News h₀ L h ((D, lst ys) :: nw) → Off1 D nw → Q (.ref D) { s₁ with heap := h, toks := tk }
theorem ListComp_cell {elt iter : Expr} {x : Str} {px : Pos} {scope : Scope} {cl : List (Str × Addr)} {pos : Pos} {Q : Value → Shared → Prop} (F₀ : Fr h₀ L s.heap m)
    (hclos : closureFor scope env = pure cl) (hcf : ∀ b, cellsFrom b scope.names cl = (x, b) :: cl) (hpc : ∀ h, pushCells h scope.names = h.push (cellObj none)) (hkind : scope.kind = .function)
    (hnames : ∀ y ∈ scope.names, y.2 = .local → scope.names.lookup y.1 = some .local) (hx : (relabel scope env).names.lookup x = some .cell)
    (h : wpAny (model prog w) A (eval iter env) (CcSrc prog w A h₀ L m env elt x scope cl Q) E s)
    (hs : ∀ x, foldedSetIterable iter env x = pure x := by intro _; rfl) :
    wpAny (model prog w) A (eval (.ListComp elt [⟨.Name x px, iter, [], 0⟩] scope pos) env) Q E s := by
  rw [eval_ListComp]
  refine wpAny_comprehension_free (use := none) rfl hs hclos hkind hnames (wpAny_mono h (fun xv s₁ h₁ => ?_) fun _ _ e => e)
  obtain ⟨r, a, b, t, u, v, n, nw, rfl, hh, F, N, hr, hsm, hn, hsz, Inv, hI0, turn, fin⟩ := h₁
  refine wpAny_pyIter_range hr hsm ?_
  refine wpAny_newObj_type (newEnv_around ?_)
  rw [hpc, hcf]
  generalize hH1 : s₁.heap.push { cls := .type "range_iterator", data := .fields #[rawInt a, rawInt (Builtin.Range.rangeSize a b 1), rawInt 1] } = H1
  have e1 : H1.objs.size = s₁.heap.objs.size + 1 := by rw [← hH1, Heap.size_push]
  generalize hH2 : H1.push (lst []) = H2
  have e2 : H2.objs.size = s₁.heap.objs.size + 2 := by rw [← hH2, Heap.size_push, e1]
  generalize hH3 : H2.push { cls := .type "dict", data := .dict #[] } = H3
  have e3 : H3.objs.size = s₁.heap.objs.size + 3 := by rw [← hH3, Heap.size_push, e2]
  generalize hH4 : H3.push (cellObj none) = H4
  have e4 : H4.objs.size = s₁.heap.objs.size + 4 := by rw [← hH4, Heap.size_push, e3]
  have e23 : H2.objs.size + 1 = H3.objs.size := by rw [e3, e2]
  dsimp only
  rw [e23]
  have fresh : ∀ z, s₁.heap.objs.size ≤ z → h₀.get? z = none := fun z hz => by
    cases e : h₀.get? z with
    | none => rfl
    | some o' => exact absurd (Heap.lt_size (F.keep z o' e)) (Nat.not_lt.mpr hz)
  have hI₀ := fresh s₁.heap.objs.size (Nat.le_refl _)
  have hD₀ := fresh H1.objs.size (by rw [e1]; omega)
  have hC₀ := fresh H2.objs.size (by rw [e2]; omega)
  have hc₀ := fresh H3.objs.size (by rw [e3]; omega)
  have hLlt : @LT.lt Nat _ L s₁.heap.objs.size := F.ns.lt
  have hIL : @Ne Nat s₁.heap.objs.size L := by omega
  have hDL : @Ne Nat H1.objs.size L := by omega
  have hCL : @Ne Nat H2.objs.size L := by omega
  have hcL : @Ne Nat H3.objs.size L := by omega
  have nIC : @Ne Nat s₁.heap.objs.size H2.objs.size := by omega
  have nIc : @Ne Nat s₁.heap.objs.size H3.objs.size := by omega
  have nID : @Ne Nat s₁.heap.objs.size H1.objs.size := by omega
  have nCc : @Ne Nat H2.objs.size H3.objs.size := by omega
  have nCD : @Ne Nat H2.objs.size H1.objs.size := by omega
  have ncD : @Ne Nat H3.objs.size H1.objs.size := by omega
  have old : ∀ b o, s₁.heap.get? b = some o → H4.get? b = some o := fun b o e => by
    rw [← hH4, ← hH3, ← hH2, ← hH1]
    exact Heap.get?_push_of_some _ (Heap.get?_push_of_some _ (Heap.get?_push_of_some _ (Heap.get?_push_of_some _ e)))
  have off : ∀ p ∈ nw, p.1 ≠ s₁.heap.objs.size ∧ p.1 ≠ H2.objs.size ∧ p.1 ≠ H3.objs.size ∧ p.1 ≠ H1.objs.size := fun p hp => by
    have hlt : @LT.lt Nat _ p.1 s₁.heap.objs.size := Heap.lt_size (N p hp).1
    exact ⟨neN (by omega), neN (by omega), neN (by omega), neN (by omega)⟩
  have gI : H4.get? s₁.heap.objs.size = some { cls := .type "range_iterator", data := .fields #[rawInt a, rawInt (Builtin.Range.rangeSize a b 1), rawInt 1] } := by
    rw [← hH4, ← hH3, ← hH2, ← hH1]
    exact Heap.get?_push_of_some _ (Heap.get?_push_of_some _ (Heap.get?_push_of_some _ (Heap.get?_push_size _ rfl)))
  have gD : H4.get? H1.objs.size = some (lst []) := by
    rw [← hH4, ← hH3]
    exact Heap.get?_push_of_some _ (Heap.get?_push_of_some _ (by rw [← hH2]; exact Heap.get?_push_size _ rfl))
  have gC : H4.get? H2.objs.size = some { cls := .type "dict", data := .dict #[] } := by
    rw [← hH4]
    exact Heap.get?_push_of_some _ (by rw [← hH3]; exact Heap.get?_push_size _ rfl)
  have gc : H4.get? H3.objs.size = some (cellObj none) := by
    rw [← hH4]; exact Heap.get?_push_size _ rfl
  have W := range_walks (prog := prog) (w := w) (I := s₁.heap.objs.size) hh a n
  have loop : ∀ s₃ : Shared, s₃ = { s₁ with heap := H4 } →
      codeAny (model prog w) A (.compLoop (.ListComp elt [⟨.Name x px, iter, [], 0⟩] scope pos) 0 (.ref s₁.heap.objs.size) (.ref H1.objs.size) (compEnvC scope ((x, H3.objs.size) :: cl) H2.objs.size env))
        (compPost (model prog w) A E none Q (.ref H1.objs.size) H2.objs.size) s₃ := by
    rintro s₃ rfl
    refine codeAny_compLoop_tests
      (fun k s' => ∃ h' tk i ys oC m' oc v, s' = { s₁ with heap := h', toks := tk } ∧ i ≤ n ∧ k = n + 1 - i ∧ ys.length = i ∧ IsRangeIter h' s₁.heap.objs.size (a + (i : Nat) * 1) ((n : Int) - (i : Nat)) 1 ∧ Fr h₀ L h' m ∧ NsObj oC m' ∧ oc.data = .cell v ∧
        News h₀ L h' ((H2.objs.size, oC) :: (H3.objs.size, oc) :: (H1.objs.size, lst ys) :: nw) ∧ Inv i ys) ?_ (n + 1)
      ⟨H4, _, 0, [], { cls := .type "dict", data := .dict #[] }, fun _ => none, cellObj none, none, rfl, Nat.zero_le _, rfl, rfl, ?_, F.keeps old, ?_, rfl, ?_, hI0⟩
    · rintro k s' ⟨h', tk, i, ys, oC, m', oc, v, rfl, hi, rfl, hyl, hst', F', hNs, hcd, N', hInv⟩
      by_cases hlt : i < n
      · refine W.item i _ _ _ hlt hst' fun v h₂ tk₂ hPv hst₂ hk₂ => ?_
        obtain ⟨t, rfl⟩ := hPv
        have zc := hk₂ _ _ (by simpa using nIc.symm) (N' (H3.objs.size, oc) (.tail _ (.head _))).1
        refine wpAny_assign_Name (wpAny_storeName_cell (env := compEnvC scope ((x, H3.objs.size) :: cl) H2.objs.size env) hkind hx (by simp [compEnvC]) ⟨oc, zc, hcd⟩ fun h₃ hv₃ hs₃ => ?_)
        refine wpAny_tests_nil ?_
        simp only [if_true]
        obtain ⟨oc₃, zc₃, hcd₃⟩ := hv₃
        have F₃ : Fr h₀ L h₃ m := (fr_but F' hk₂ hIL.symm hI₀).change hs₃ hcL hc₀
        have zI : h₃.get? s₁.heap.objs.size = some { cls := .type "range_iterator", data := .fields #[rawInt (a + ((i + 1 : Nat) : Int) * 1), rawInt ((n : Int) - (i + 1 : Nat)), rawInt 1] } := (hs₃.2 _ nIc).trans hst₂
        have N₃ : News h₀ L h₃ ((s₁.heap.objs.size, { cls := .type "range_iterator", data := .fields #[rawInt (a + ((i + 1 : Nat) : Int) * 1), rawInt ((n : Int) - (i + 1 : Nat)), rawInt 1] }) :: (H2.objs.size, oC) :: (H3.objs.size, oc₃) :: (H1.objs.size, lst ys) :: nw) := by
          have up : ∀ p ∈ ((H2.objs.size, oC) :: (H3.objs.size, oc) :: (H1.objs.size, lst ys) :: nw), p.1 ≠ s₁.heap.objs.size → p.1 ≠ H3.objs.size → h₃.get? p.1 = some p.2 := fun p hp n1 n2 => (hs₃.2 _ n2).trans (hk₂ _ _ (by simpa using n1) (N' p hp).1)
          intro p hp
          rcases List.mem_cons.mp hp with rfl | hp
          · exact ⟨zI, hIL, hI₀⟩
          · rcases List.mem_cons.mp hp with rfl | hp
            · exact ⟨up _ (.head _) nIC.symm nCc, hCL, hC₀⟩
            · rcases List.mem_cons.mp hp with rfl | hp
              · exact ⟨zc₃, hcL, hc₀⟩
              · rcases List.mem_cons.mp hp with rfl | hp
                · exact ⟨up _ (.tail _ (.tail _ (.head _))) nID.symm ncD.symm, hDL, hD₀⟩
                · exact ⟨up p (.tail _ (.tail _ (.tail _ hp))) (off p hp).1 (off p hp).2.2.1, (N' p (.tail _ (.tail _ (.tail _ hp)))).2⟩
        refine wpAny_mono (turn _ i ys _ _ _ _ _ _ _ h₃ tk₂ t hlt hInv hcd₃ F₃ N₃ ⟨nIC, nIc, nID, nCc, nCD, ncD⟩ off ⟨_, hNs⟩) (fun y s₄ h₄ => ?_) fun _ _ e => e
        obtain ⟨h₄, tk₄, all', rfl, F₄, N₄, hsub, hInv₄⟩ := h₄
        have wI := (N₄ _ (hsub _ (.head _))).1
        have wC := (N₄ _ (hsub _ (.tail _ (.head _)))).1
        have wc := (N₄ _ (hsub _ (.tail _ (.tail _ (.head _))))).1
        have wD := (N₄ _ (hsub _ (.tail _ (.tail _ (.tail _ (.head _)))))).1
        refine append_at (hsz := by show ys.toArray.size ≤ sizeLine; rw [List.size_toArray, hyl]; exact Nat.le_trans hi hsz) wD fun h₅ hs₅ hD₅ => ?_
        refine ⟨n + 1 - (i + 1), by omega, h₅, tk₄, i + 1, ys ++ [y], oC, m', oc₃, _, rfl, hlt, rfl, by rw [List.length_append, List.length_singleton, hyl], (hs₅.2 _ nID).trans wI, F₄.change hs₅ hDL hD₀, hNs, hcd₃, ?_, hInv₄⟩
        intro p hp
        rcases List.mem_cons.mp hp with rfl | hp
        · exact ⟨(hs₅.2 _ nCD).trans wC, hCL, hC₀⟩
        · rcases List.mem_cons.mp hp with rfl | hp
          · exact ⟨(hs₅.2 _ ncD).trans wc, hcL, hc₀⟩
          · rcases List.mem_cons.mp hp with rfl | hp
            · exact ⟨hD₅.trans (congrArg some (lst_snoc ys y)), hDL, hD₀⟩
            · have z := N₄ p (hsub p (.tail _ (.tail _ (.tail _ (.tail _ hp)))))
              exact ⟨(hs₅.2 _ (off p hp).2.2.2).trans z.1, z.2⟩
      · obtain rfl : i = n := Nat.le_antisymm hi (Nat.not_lt.mp hlt)
        refine W.done _ _ _ hst' fun h₂ tk₂ hk₂ => ?_
        have F₂ := fr_but F' hk₂ hIL.symm hI₀
        have hnC : h₂.Ns H2.objs.size m' := hNs.ns (hk₂ _ _ (by simpa using nIC.symm) (N' _ (.head _)).1)
        refine ⟨m', hnC, fun h'' hs'' => fin ys _ h'' tk₂ hInv (F₂.change hs'' hCL hC₀) (fun p hp => ?_) ?_⟩
        · rcases List.mem_cons.mp hp with rfl | hp
          · exact ⟨(hs''.2 _ nCD.symm).trans (hk₂ _ _ (by simpa using nID.symm) (N' _ (.tail _ (.tail _ (.head _)))).1), hDL, hD₀⟩
          · have z := N' p (.tail _ (.tail _ (.tail _ hp)))
            exact ⟨(hs''.2 _ (off p hp).2.1).trans (hk₂ _ _ (by simpa using (off p hp).1) z.1), z.2⟩
        · have : ∀ l : List (Addr × Obj), (∀ p ∈ l, p.1 ≠ H1.objs.size) → Off1 H1.objs.size l := by
            intro l
            induction l with
            | nil => exact fun _ => trivial
            | cons p r ih => exact fun hl => ⟨hl p (.head _), ih fun q hq => hl q (.tail _ hq)⟩
          exact this nw fun p hp => (off p hp).2.2.2
    · show H4.get? _ = some _
      rw [gI, hn]
      have q1 : a + ((0 : Nat) : Int) * 1 = a := by omega
      have q2 : (n : Int) - ((0 : Nat) : Int) = n := by omega
      rw [q1, q2]
    · have hz : StrKeys #[] := by
        intro e he
        simp at he
      exact ⟨#[], _, rfl, hz, fun _ => by simp [nsFind, findBy]⟩
    · intro p hp
      rcases List.mem_cons.mp hp with rfl | hp
      · exact ⟨gC, hCL, hC₀⟩
      · rcases List.mem_cons.mp hp with rfl | hp
        · exact ⟨gc, hcL, hc₀⟩
        · rcases List.mem_cons.mp hp with rfl | hp
          · exact ⟨gD, hDL, hD₀⟩
          · exact ⟨old _ _ (N p hp).1, (N p hp).2⟩
  have hst0 : IsRangeIter H4 s₁.heap.objs.size (a + ((0 : Nat) : Int) * 1) ((n : Int) - ((0 : Nat) : Int)) 1 := by
    show H4.get? _ = some _
    rw [gI, hn]
    have q1 : a + ((0 : Nat) : Int) * 1 = a := by omega
    have q2 : (n : Int) - ((0 : Nat) : Int) = n := by omega
    rw [q1, q2]
  exact codeAny_compStart_list (loop _ rfl) (W.self 0 _ _ _ hst0 (loop _ rfl))
/-- a mark at which the walk stops -/
def Hold (P : Prop) : Prop := P
theorem ListComp_TH {ct elt iter : Expr} {x : Str} {px : Pos} {scope : Scope} {cl : List (Str × Addr)} {pos : Pos} {Q : Value → Shared → Prop} (F₀ : Fr h₀ L s.heap m)
    (hclos : closureFor scope env = pure cl) (hcell : ∀ y ∈ scope.names, y.2 ≠ .cell) (hkind : scope.kind = .function)
    (hnames : ∀ y ∈ scope.names, y.2 = .local → scope.names.lookup y.1 = some .local) (hx : scope.names.lookup x = some .local)
    (h : wpAny (model prog w) A (eval iter env) (fun v s' => Hold (LCt.CompSrcT prog w A h₀ L m env ct elt x scope cl (fun s₂ => FinE h₀ L m s₂ Q) v s')) E s)
    (hs : ∀ x, foldedSetIterable iter env x = pure x := by intro _; rfl) :
    wpAny (model prog w) A (eval (.ListComp elt [⟨.Name x px, iter, [ct], 0⟩] scope pos) env) Q E s := LCt.ListComp_T F₀ hclos hcell hkind hnames hx h hs
end
end
section
open PySem PySem.W PyProof.Rows
open PySem.Spec PySem.Calls
set_option maxRecDepth 100000
open LCg
section
variable {prog : Program} {w : World} {A : Around} {E : Value → Shared → Prop} {s : Shared} {h₀ : Heap} {L : Addr} {m : Str → Option Value} {env : Env} {elt : Expr} {x : Str} {scope : Scope} {cl : List (Str × Addr)} {S : List (Addr × Obj) → Prop} {P : Nat → Value → Prop} {Fin : List Value → List (Addr × Obj) → Prop} {nw : List (Addr × Obj)} {n : Nat}
/-- the turns of a comprehension without a test, by an invariant -/
theorem rest_indU (Inv : Nat → List Value → Prop)
    (step : ∀ i ys, i < n → Inv i ys → ∀ v I oI C oC D m₂ h tk (E' : Value → Shared → Prop), P i v → NsObj oC m₂ → m₂ x = some v → Fr h₀ L h m → News h₀ L h ((I, oI) :: (C, oC) :: (D, lst ys) :: nw) → Off3 I C D nw → ((@Ne Nat I C) ∧ (@Ne Nat I D) ∧ (@Ne Nat C D)) →
      wpAny (model prog w) A (eval elt (compEnvC scope cl C env)) (CompEnd h₀ L m { s with heap := h, toks := tk } I oI C oC D (lst ys) S (fun y nw' => nw' = nw ∧ Inv (i + 1) (ys ++ [y]))) E' { s with heap := h, toks := tk })
    (fin : ∀ ys, Inv n ys → Fin ys nw) (h0 : Inv 0 []) : CompRest prog w A h₀ L m env elt x scope cl s S P Fin n 0 [] nw := by
  have key : ∀ k i ys, i + k = n → Inv i ys → CompRest prog w A h₀ L m env elt x scope cl s S P Fin k i ys nw := by
    intro k
    induction k with
    | zero =>
      intro i ys hk hI
      have : i = n := by omega
      subst this
      exact CompRest.zero (fin ys hI)
    | succ k ih =>
      intro i ys hk hI
      refine CompRest.succ fun v I oI C oC D m₂ h tk E' hP hN hm F N off ne => ?_
      exact wpAny_mono (step i ys (by omega) hI v I oI C oC D m₂ h tk E' hP hN hm F N off ne) (fun y s' H => compEnd_mono (fun y nw' ⟨e, hi⟩ => e ▸ ih (i + 1) _ (by omega) hi) H) fun _ _ e => e
  exact key n 0 [] (by omega) h0
/-- the same where the ledger grows -/
theorem rest_indG (Inv : Nat → List Value → List (Addr × Obj) → Prop)
    (step : ∀ i ys nw', i < n → Inv i ys nw' → ∀ v I oI C oC D m₂ h tk (E' : Value → Shared → Prop), P i v → NsObj oC m₂ → m₂ x = some v → Fr h₀ L h m → News h₀ L h ((I, oI) :: (C, oC) :: (D, lst ys) :: nw') → Off3 I C D nw' → ((@Ne Nat I C) ∧ (@Ne Nat I D) ∧ (@Ne Nat C D)) →
      wpAny (model prog w) A (eval elt (compEnvC scope cl C env)) (CompEnd h₀ L m { s with heap := h, toks := tk } I oI C oC D (lst ys) S (fun y nw'' => Inv (i + 1) (ys ++ [y]) nw'')) E' { s with heap := h, toks := tk })
    (fin : ∀ ys nw', Inv n ys nw' → Fin ys nw') (h0 : Inv 0 [] nw) : CompRest prog w A h₀ L m env elt x scope cl s S P Fin n 0 [] nw := by
  have key : ∀ k i ys nw', i + k = n → Inv i ys nw' → CompRest prog w A h₀ L m env elt x scope cl s S P Fin k i ys nw' := by
    intro k
    induction k with
    | zero =>
      intro i ys nw' hk hI
      have : i = n := by omega
      subst this
      exact CompRest.zero (fin ys nw' hI)
    | succ k ih =>
      intro i ys nw' hk hI
      refine CompRest.succ fun v I oI C oC D m₂ h tk E' hP hN hm F N off ne => ?_
      exact wpAny_mono (step i ys nw' (by omega) hI v I oI C oC D m₂ h tk E' hP hN hm F N off ne) (fun y s' H => compEnd_mono (fun y nw'' hi => ih (i + 1) _ nw'' (by omega) hi) H) fun _ _ e => e
  exact key n 0 [] nw (by omega) h0
theorem ListComp_UH {elt iter : Expr} {x : Str} {px : Pos} {scope : Scope} {cl : List (Str × Addr)} {pos : Pos} {Q : Value → Shared → Prop} (F₀ : Fr h₀ L s.heap m)
    (hclos : closureFor scope env = pure cl) (hcell : ∀ y ∈ scope.names, y.2 ≠ .cell) (hkind : scope.kind = .function)
    (hnames : ∀ y ∈ scope.names, y.2 = .local → scope.names.lookup y.1 = some .local) (hx : scope.names.lookup x = some .local)
    (h : wpAny (model prog w) A (eval iter env) (fun v s' => Hold (CompSrc prog w A h₀ L m env elt x scope cl (fun s₂ => FinE h₀ L m s₂ Q) v s')) E s)
    (hs : ∀ x, foldedSetIterable iter env x = pure x := by intro _; rfl) :
    wpAny (model prog w) A (eval (.ListComp elt [⟨.Name x px, iter, [], 0⟩] scope pos) env) Q E s := ListComp_U F₀ hclos hcell hkind hnames hx h hs
theorem Assign_ListComp_UH {elt iter : Expr} {x y : Str} {px py : Pos} {scope : Scope} {cl : List (Str × Addr)} {pos spos : Pos} {Q : Flow → Shared → Prop} (F₀ : Fr h₀ L s.heap m) (hLe : env.locals = L)
    (hsw : swapsWith (.ListComp elt [⟨.Name x px, iter, [], 0⟩] scope pos) (some (.Name y py)) spos.line env = pure true)
    (hclos : closureFor scope env = pure cl) (hcell : ∀ z ∈ scope.names, z.2 ≠ .cell) (hkind : scope.kind = .function)
    (hnames : ∀ z ∈ scope.names, z.2 = .local → scope.names.lookup z.1 = some .local) (hx : scope.names.lookup x = some .local)
    (hy : env.kindOf y = some .local) (hp : (env.scope.kind == .class || (env.scope.kind == .module && env.locals != env.globals)) = false)
    (h : wpAny (model prog w) A (eval iter env) (fun v s' => Hold (CompSrc prog w A h₀ L m env elt x scope cl (fun s₂ => FinA h₀ L m s₂ y Q) v s')) E s)
    (hs : ∀ x, foldedSetIterable iter env x = pure x := by intro _; rfl) :
    wpAny (model prog w) A (exec (.Assign [.Name y py] (.ListComp elt [⟨.Name x px, iter, [], 0⟩] scope pos) spos) env) Q E s := Assign_ListComp_U F₀ hLe hsw hclos hcell hkind hnames hx hy hp h hs
end
end
section
set_option maxRecDepth 100000
/-- where the first three lies among the codes ahead of p, or p -/
def barOf (ns : List Int) (p : Nat) : Nat := (ns.take p ++ [3]).findIdx (· == 3)
/-- may a piece reach from p to q? -/
def okW (ns : List Int) (p q : Nat) : Bool := q - p == 1 || (List.range ((barOf ns p : Int) - q + p + 1).toNat).any fun s => (ns.drop s).take (q - p) == (ns.drop p).take (q - p)
def tst (ns : List Int) (p q s : Nat) : Bool := (ns.drop s).take (q - p) == (ns.drop p).take (q - p)
theorem slice_eq (ns : List Int) (k d : Nat) : (ns.drop k).take (min (k + d) ns.length - k) = (ns.drop k).take d := by
  by_cases h : k + d ≤ ns.length
  · rw [Nat.min_eq_left h]; congr 1; omega
  · rw [Nat.min_eq_right (by omega), List.take_of_length_le (by rw [List.length_drop]; omega), List.take_of_length_le (by rw [List.length_drop]; omega)]
theorem slice_tst {ns : List Int} {i j k : Nat} (hj : j < i + 1) : ((ns.drop ((0 : Int) + (k : Int)).toNat).take (min ((0 : Int) + (k : Int) + (1 + (i : Int)) - (0 + (j : Int))).toNat ns.length - ((0 : Int) + (k : Int)).toNat) = (ns.drop ((0 : Int) + (j : Int)).toNat).take (min ((1 : Int) + (i : Int)).toNat ns.length - ((0 : Int) + (j : Int)).toNat)) ↔ tst ns j (i + 1) k = true := by
  have e1 : ((0 : Int) + (k : Int)).toNat = k := by omega
  have e2 : ((0 : Int) + (j : Int)).toNat = j := by omega
  have e3 : ((0 : Int) + (k : Int) + (1 + (i : Int)) - (0 + (j : Int))).toNat = k + (i + 1 - j) := by omega
  have e4 : ((1 : Int) + (i : Int)).toNat = j + (i + 1 - j) := by omega
  rw [e1, e2, e3, e4, slice_eq, slice_eq]
  unfold tst
  rw [beq_iff_eq]
theorem any_succ (f : Nat → Bool) (k : Nat) : (List.range (k + 1)).any f = ((List.range k).any f || f k) := by
  rw [List.range_succ, List.any_append]
  simp
def waysTo (ns ls : List Int) (q j : Nat) : List Int := (List.range j).filterMap fun p => if okW ns p q then some (ls.getD p 0 + 1) else none
theorem waysTo_succ (ns ls : List Int) (q j : Nat) : waysTo ns ls q (j + 1) = waysTo ns ls q j ++ (if okW ns j q then [ls.getD j 0 + 1] else []) := by
  unfold waysTo
  rw [List.range_succ, List.filterMap_append]
  congr 1
  cases h : okW ns j q <;> simp [h]
theorem okW_any {ns : List Int} {i j n : Nat} (h : ((barOf ns j : Int) - (1 + (i : Int)) + (0 + (j : Int)) + 1).toNat = n) (hne : (1 : Int) + i - (0 + j) ≠ 1) (hji : j < i + 1) : okW ns j (i + 1) = (List.range n).any (tst ns j (i + 1)) := by
  unfold okW
  have e1 : ((i + 1 - j) == 1) = false := by
    rw [beq_eq_false_iff_ne]; omega
  have e2 : ((barOf ns j : Int) - ((i + 1 : Nat) : Int) + (j : Int) + 1).toNat = n := by omega
  rw [e1, e2, Bool.false_or]
  rfl
def minL : List Int → Int
  | [] => 0
  | x :: r => r.foldl min x
theorem foldl_min_le : ∀ (r : List Int) (x : Int), r.foldl min x ≤ x ∧ (∀ a ∈ r, r.foldl min x ≤ a) ∧ (r.foldl min x = x ∨ r.foldl min x ∈ r)
  | [], x => ⟨Int.le_refl _, (fun _ h => nomatch h), .inl rfl⟩
  | y :: r, x => by
    obtain ⟨h1, h2, h3⟩ := foldl_min_le r (min x y)
    refine ⟨Int.le_trans h1 (Int.min_le_left _ _), fun a ha => ?_, ?_⟩
    · rcases List.mem_cons.mp ha with rfl | ha
      · exact Int.le_trans h1 (Int.min_le_right _ _)
      · exact h2 a ha
    · show r.foldl min (min x y) = x ∨ r.foldl min (min x y) ∈ y :: r
      rcases h3 with h3 | h3
      · rw [h3]
        rcases Int.le_total x y with h | h
        · left; omega
        · right; have : min x y = y := by omega
          rw [this]; exact .head _
      · right; exact .tail _ h3
theorem minL_eq {l : List Int} {M : Int} (h1 : M ∈ l) (h2 : ∀ a ∈ l, M ≤ a) : M = minL l := by
  cases l with
  | nil => cases h1
  | cons x r =>
    obtain ⟨a1, a2, a3⟩ := foldl_min_le r x
    have b1 : minL (x :: r) ≤ M := by
      rcases List.mem_cons.mp h1 with rfl | h1
      · exact a1
      · exact a2 _ h1
    have b2 : M ≤ minL (x :: r) := by
      rcases a3 with a3 | a3
      · show M ≤ r.foldl min x; rw [a3]; exact h2 _ (.head _)
      · exact h2 _ (.tail _ a3)
    omega
theorem waysTo_pos (ns ls : List Int) (i : Nat) : 0 < (waysTo ns ls (i + 1) (i + 1)).length := by
  have hok : okW ns i (i + 1) = true := by
    unfold okW
    have : ((i + 1 - i) == 1) = true := by rw [beq_iff_eq]; omega
    rw [this, Bool.true_or]
  rw [waysTo_succ, hok]
  simp
noncomputable def leastN (ns : List Int) : Nat → List Int
  | 0 => [0]
  | q + 1 => leastN ns q ++ [minL (waysTo ns (leastN ns q) (q + 1) (q + 1))]
def maxL : List Int → Int
  | [] => 0
  | x :: r => r.foldl max x
theorem foldl_max_le : ∀ (r : List Int) (x : Int), x ≤ r.foldl max x ∧ (∀ a ∈ r, a ≤ r.foldl max x) ∧ (r.foldl max x = x ∨ r.foldl max x ∈ r)
  | [], x => ⟨Int.le_refl _, (fun _ h => nomatch h), .inl rfl⟩
  | y :: r, x => by
    obtain ⟨h1, h2, h3⟩ := foldl_max_le r (max x y)
    refine ⟨Int.le_trans (Int.le_max_left _ _) h1, fun a ha => ?_, ?_⟩
    · rcases List.mem_cons.mp ha with rfl | ha
      · exact Int.le_trans (Int.le_max_right _ _) h1
      · exact h2 a ha
    · show r.foldl max (max x y) = x ∨ r.foldl max (max x y) ∈ y :: r
      rcases h3 with h3 | h3
      · rw [h3]
        rcases Int.le_total x y with h | h
        · right; have : max x y = y := by omega
          rw [this]; exact .head _
        · left; omega
      · right; exact .tail _ h3
theorem maxL_le {l : List Int} {a : Int} (h : a ∈ l) : a ≤ maxL l := by
  cases l with
  | nil => cases h
  | cons x r =>
    obtain ⟨a1, a2, a3⟩ := foldl_max_le r x
    rcases List.mem_cons.mp h with rfl | h
    · exact a1
    · exact a2 _ h
theorem maxL_mem {l : List Int} (h : l ≠ []) : maxL l ∈ l := by
  cases l with
  | nil => exact absurd rfl h
  | cons x r =>
    obtain ⟨a1, a2, a3⟩ := foldl_max_le r x
    rcases a3 with a3 | a3
    · show r.foldl max x ∈ _; rw [a3]; exact .head _
    · exact .tail _ a3
theorem maxL_eq {l : List Int} {M : Int} (h1 : M ∈ l) (h2 : ∀ a ∈ l, a ≤ M) : M = maxL l :=
  Int.le_antisymm (maxL_le h1) (h2 _ (maxL_mem (by rintro rfl; cases h1)))
theorem minL_le {l : List Int} {a : Int} (h : a ∈ l) : minL l ≤ a := by
  cases l with
  | nil => cases h
  | cons x r =>
    obtain ⟨a1, a2, a3⟩ := foldl_min_le r x
    rcases List.mem_cons.mp h with rfl | h
    · exact a1
    · exact a2 _ h
theorem leastN_length (ns : List Int) : ∀ n, (leastN ns n).length = n + 1
  | 0 => rfl
  | n + 1 => by unfold leastN; rw [List.length_append, leastN_length ns n]; rfl
theorem leastN_getD (ns : List Int) {q : Nat} : ∀ {n : Nat}, q ≤ n → (leastN ns n).getD q 0 = (leastN ns q).getD q 0
  | 0, h => by have : q = 0 := by omega
               subst this; rfl
  | n + 1, h => by
    by_cases e : q = n + 1
    · subst e; rfl
    · rw [← leastN_getD ns (n := n) (by omega)]
      show (leastN ns n ++ _).getD q 0 = _
      rw [List.getD_eq_getElem?_getD, List.getElem?_append_left (by rw [leastN_length]; omega), ← List.getD_eq_getElem?_getD]
theorem leastN_last (ns : List Int) (n : Nat) : (leastN ns (n + 1)).getD (n + 1) 0 = minL (waysTo ns (leastN ns n) (n + 1) (n + 1)) := by
  show (leastN ns n ++ _).getD (n + 1) 0 = _
  rw [List.getD_eq_getElem?_getD, List.getElem?_append_right (by rw [leastN_length]; omega), leastN_length, Nat.sub_self]
  rfl
theorem leastN_step (ns : List Int) {q n : Nat} (h : q + 1 ≤ n) : (leastN ns n).getD (q + 1) 0 ≤ (leastN ns n).getD q 0 + 1 := by
  rw [leastN_getD ns h, leastN_getD ns (show q ≤ n by omega), leastN_last]
  have hok : okW ns q (q + 1) = true := by
    unfold okW
    have : ((q + 1 - q) == 1) = true := by rw [beq_iff_eq]; omega
    rw [this, Bool.true_or]
  refine minL_le ?_
  rw [waysTo_succ, hok]
  exact List.mem_append.mpr (.inr (by simp))
theorem leastN_hits (ns : List Int) (n : Nat) (k : Nat) : ∀ q, q ≤ n → (k : Int) ≤ (leastN ns n).getD q 0 → ∃ p, p ≤ q ∧ (leastN ns n).getD p 0 = k
  | 0, _, h => by
    have e : (leastN ns n).getD 0 0 = 0 := leastN_getD ns (Nat.zero_le n)
    rw [e] at h
    exact ⟨0, Nat.le_refl _, by rw [e]; omega⟩
  | q + 1, hq, h => by
    by_cases e : (leastN ns n).getD (q + 1) 0 = k
    · exact ⟨q + 1, Nat.le_refl _, e⟩
    · have := leastN_step ns hq
      obtain ⟨p, h1, h2⟩ := leastN_hits ns n k q (by omega) (by omega)
      exact ⟨p, by omega, h2⟩
def whereAt (ls : List Int) (k : Int) (j : Nat) : List Int := ((List.range j).filter fun q => ls.getD q 0 == k).map Int.ofNat
theorem whereAt_succ (ls : List Int) (k : Int) (j : Nat) : whereAt ls k (j + 1) = whereAt ls k j ++ (if ls.getD j 0 = k then [(j : Int)] else []) := by
  unfold whereAt
  rw [List.range_succ, List.filter_append, List.map_append]
  congr 1
  rw [List.filter_cons, List.filter_nil]
  by_cases h : ls.getD j 0 = k
  · have hb : (ls.getD j 0 == k) = true := by rw [beq_iff_eq]; exact h
    rw [if_pos h, if_pos hb]; rfl
  · have hb : ¬ (ls.getD j 0 == k) = true := by rw [beq_iff_eq]; exact h
    rw [if_neg h, if_neg hb]; rfl
theorem whereAt_ne {ns : List Int} {k : Nat} (h : (k : Int) ≤ maxL (leastN ns 10)) : whereAt (leastN ns 10) k 11 ≠ [] := by
  have hm := maxL_mem (l := leastN ns 10) (by intro e; have := leastN_length ns 10; rw [e] at this; cases this)
  obtain ⟨q, hq, e⟩ := List.getElem_of_mem hm
  rw [leastN_length] at hq
  obtain ⟨p, h1, h2⟩ := leastN_hits ns 10 k q (by omega) (by rw [List.getD_eq_getElem?_getD, List.getElem?_eq_getElem (by rw [leastN_length]; omega), Option.getD_some, e]; exact h)
  have : (p : Int) ∈ whereAt (leastN ns 10) k 11 := List.mem_map.mpr ⟨p, List.mem_filter.mpr ⟨List.mem_range.mpr (by omega), by rw [h2]; simp⟩, rfl⟩
  intro e
  rw [e] at this
  cases this
noncomputable def endsN (ns : List Int) (i : Nat) : List Int := (List.range i).map fun k => maxL (whereAt (leastN ns 10) ((k + 1 : Nat) : Int) 11)
theorem endsN_succ (ns : List Int) (i : Nat) : endsN ns (i + 1) = endsN ns i ++ [maxL (whereAt (leastN ns 10) ((i + 1 : Nat) : Int) 11)] := by
  unfold endsN
  rw [List.range_succ, List.map_append]
  rfl
/-- the ends that the table tells -/
noncomputable def endsOf (ns : List Int) : List Int := endsN ns (maxL (leastN ns 10)).toNat
theorem leastN_nonneg (ns : List Int) : ∀ n, ∀ a ∈ leastN ns n, 0 ≤ a ∧ a ≤ n
  | 0, a, h => by rw [List.mem_singleton.mp h]; exact ⟨Int.le_refl _, Int.le_refl _⟩
  | n + 1, a, h => by
    have ih := leastN_nonneg ns n
    rcases List.mem_append.mp h with h | h
    · have := ih a h; omega
    · rw [List.mem_singleton.mp h]
      have hne : waysTo ns (leastN ns n) (n + 1) (n + 1) ≠ [] := by
        intro e; have := waysTo_pos ns (leastN ns n) n; rw [e] at this; exact absurd this (by decide)
      have hmem : minL (waysTo ns (leastN ns n) (n + 1) (n + 1)) ∈ waysTo ns (leastN ns n) (n + 1) (n + 1) := by
        cases hw : waysTo ns (leastN ns n) (n + 1) (n + 1) with
        | nil => exact absurd hw hne
        | cons x r =>
          obtain ⟨a1, a2, a3⟩ := foldl_min_le r x
          rcases a3 with a3 | a3
          · show r.foldl min x ∈ _; rw [a3]; exact .head _
          · exact .tail _ a3
      unfold waysTo at hmem ⊢
      obtain ⟨p, hp, e⟩ := List.mem_filterMap.mp hmem
      rw [List.mem_range] at hp
      have hb := ih ((leastN ns n).getD p 0) (by rw [List.getD_eq_getElem?_getD, List.getElem?_eq_getElem (by rw [leastN_length]; omega), Option.getD_some]; exact List.getElem_mem _)
      split at e
      · rw [← Option.some.inj e]; omega
      · cases e
theorem endsOf_len (ns : List Int) : (endsOf ns).length ≤ 10 := by
  unfold endsOf endsN
  rw [List.length_map, List.length_range]
  have hm := maxL_mem (l := leastN ns 10) (by intro e; have := leastN_length ns 10; rw [e] at this; cases this)
  have := leastN_nonneg ns 10 _ hm
  omega
end
section
open PySem PySem.W PyProof.Rows
open PySem.Spec PySem.Calls
set_option maxRecDepth 100000
set_option pp.deepTerms false
set_option pp.maxSteps 10000
open LCg LCt
theorem fillE1 : PySem.Challenge.rw_rs0046_01 = PySem.Challenge.rw_rs0046_01 ∧ Mine.hd.heap_39 = Mine.hd.heap_39 := by
  w_top off
  k_fill
  exact ⟨rfl, rfl⟩
section
open Lean
def linesE : String → Tac
  | "exec For" => `(tactic| (k_here; k_dflt (refine wpAny_For ?_)))
  | "call builtin:list.index" => line `call_index "0s12_" (sp := [`(tactic| exact News.get (by k_asm) (by k_mem)), `(tactic| simp), `(tactic| (simp only [List.length_append, List.length_take, List.length_cons, List.length_nil]; omega))])
  | "exec Assign cons ListComp" => line `LCt.Assign_ListComp_T "ar001r1rrr_" (sp := [wua, dcd])
  | "eval ListComp" => line `ListComp_TH "a01r1r_" (sp := [wua, dcd]) (pre := `(tactic| lct_look))
  | "call builtin:list.append" => line `append_K "aaU_0" [`h', `F', `N'] (sp := [`(tactic| (rw [sizeLine_eq]; omega))])
  | _ => Macro.throwUnsupported
end
local macro_rules | `(tactic| walk_at $k:str) => linesE k.getString
theorem small_b {a b : Int} (ha : -1000 ≤ a) (ha' : a ≤ 1000) (hb : -1000 ≤ b) (hb' : b ≤ 1000) : Builtin.Range.small a b 1 = true := small_one (by omega) (by omega) (by omega) (by omega)
theorem news_sub {h₀ h : Heap} {L : Addr} {a b : List (Addr × Obj)} (N : News h₀ L h b) (hs : ∀ p ∈ a, p ∈ b) : News h₀ L h a := fun p hp => N p (hs p hp)
theorem rng_end {h₀ h : Heap} {L I c : Addr} {oI o : Obj} {v : Option Value} {Inv : (Str → Option Value) → List (Addr × Obj) → Prop} {m' : Str → Option Value} {s : Shared} {tk : Nat} {all nw' : List (Addr × Obj)} (F : Fr h₀ L h m') (N : News h₀ L h all)
    (hsub : ∀ p ∈ (I, oI) :: (c, o) :: nw', p ∈ all) (hd : o.data = .cell v) (hne : ∀ p ∈ nw', p.1 ≠ I ∧ p.1 ≠ c) (hInv : Inv m' nw') : RngPost h₀ L Inv I c oI s .next { s with heap := h, toks := tk } :=
  ⟨h, tk, m', all, nw', o, v, rfl, F, N, hsub _ (.head _), hsub _ (.tail _ (.head _)), hd, hInv, fun p hp => ⟨hsub p (.tail _ (.tail _ hp)), hne p hp⟩⟩
set_option maxHeartbeats 8000000 in
theorem ends_c {w : World} {dp un : Nat} {gd : Option (List Code)} {cn : Str} {cs : Scope} {a : Addr} {ccd : Value} {cl : List (Str × Addr)} {outer : List Env} {A₀ : Around} {base h₀ : Heap} {L : Addr} {m : Str → Option Value} {s : Shared} {Q E : Value → Shared → Prop}
   {pg : Program} {ls : List Str} {mean : ExcName → Option Value} {mg mb : Str → Option Value} {l : Addr} {its : Array Value} {ns : List Int}
   (B : Below A₀ base outer h₀) (F : Fr h₀ L s.heap m) (X : (Mine.hd.heap_39 w.params).In h₀)
   (T : Top pg ls mean mg mb h₀) (hk : cs.kind = .function) (hd : dp + 6 < recursionLimit) (hu : un + 100 < cLine)
   (hl : s.heap.IsList l its) (hi : IntsAre its.toList ns) (hn : ns.length = 10)
   (hret : ∀ D its' n' h' tk', (∀ b o, s.heap.get? b = some o → h'.get? b = some o) → s.heap.get? D = none → h'.get? D = some (listOf its' n') → IntsAre its'.toList (endsOf ns) → Q (.ref D) { s with heap := h', toks := tk' }) :
   wpAny (model PySem.Challenge.pw_rs0046_01 w) (ktrTop dp un gd cn cs L a ccd cl outer) (call (.ref 169) [.ref l]) Q E s := by
  refine wpAny_call ?_
  k_dflt (refine' enter_cells ?k1 ?k2 ?k3 ?k5 ?kA ?kF ?kK ?k6 ?k7 ?k8 ?k9 ?kB ?kD ?_ ?c2 ?c3 ?c4; (case kA => exact rfl); (case kF => exact rfl); (case kK => assumption); (case k1 => k_asm); (case k2 => k_asm); (case k3 => k_asm); (case k5 => k_asm); (case k6 => k_is); (case k7 => k_is); (case k8 => k_room); (case k9 => exact BindsTo.of_eq rfl); (case kB => exact rfl); (case kD => decide +kernel); (case c2 => exact rfl); (case c3 => exact rfl); (case c4 => exact rfl))
  clear X T B
  intro L' h' tk' cells' F' N' Y' B' X' T'
  k_cells Y'
  (try simp only [List.cons_append, List.nil_append] at N'); (try dsimp only); (try k_lift B'); (try k_fold)
  rename_i op oq ol oc dp' dq' dl' dc'
  have F' : Fr s.heap L' h' (fun _ => none) := F'
  have dp' : op.data = .cell none := dp'
  have dq' : oq.data = .cell none := dq'
  have dl' : ol.data = .cell none := dl'
  have dc' : oc.data = .cell (some (.ref l)) := dc'
  k_steps
  rename IsRange _ _ _ _ _ _ _ _ => hr
  rename Fr _ _ _ _ => F1
  rename News _ _ _ _ => N1
  rename _ ∧ _ => l1
  rename _ = Data.cell (some (Value.ref _)) => dl1
  rename_i lst h2a h2b ol1 F2a N2a h2c tk2c t1c u1c v1c kp1
  have hsz : Builtin.Range.rangeSize 1 ((ns.length : Int) + 1) 1 = (10 : Nat) := by rw [rangeSize_nat, hn]; rfl
  refine iter_rng (c := L' + 1 + 1 + 1) (o0 := oq) (n := 10) (nw := [(lst, listOf #[Value.int 0 tk'] 0), (L' + 1 + 1 + 1 + 1, op), (L' + 1 + 1, ol1), (L' + 1, oc)])
    (fun i m' nw' => ∃ lst lits ln op vp ol, nw' = [(lst, listOf lits ln), (L' + 1 + 1 + 1 + 1, op), (L' + 1 + 1, ol), (L' + 1, oc)] ∧ @LT.lt Nat _ (L' + 1 + 1 + 1 + 1) lst ∧ op.data = .cell vp ∧ ol.data = .cell (some (.ref lst)) ∧ IntsAre lits.toList (leastN ns i) ∧ (leastN ns i).length = i + 1)
    rfl hr (small_b (by omega) (by omega) (by omega) (by omega)) hsz rfl rfl rfl F1 (news_sub N1 ?sub) dq' ?ne ?h0 ?turn ?done
  case sub => lcg_sub
  case ne =>
    intro p hp
    simp only [List.mem_cons, List.not_mem_nil, or_false] at hp
    rcases hp with rfl | rfl | rfl | rfl <;> exact neN (by omega)
  case h0 => exact ⟨lst, #[.int 0 tk'], 0, op, _, ol1, rfl, l1.1, dp', dl1, .cons _ _ .nil, rfl⟩
  case done =>
    rintro h4 tk4 m4 nw4 oq4 vq4 ⟨lst2, lits, ln, op2, vp, ol2, rfl, hlt, dp2, dl2, hli, hll⟩ F4 N4 dq4 hne4
    clear F1 N1
    k_steps
    refine ListComp_cell (F₀ := by k_asm) (by with_unfolding_all rfl) (by intro _; rfl) (by intro _; rfl) (by rfl) (by decide) (by with_unfolding_all rfl) ?_
    k_steps
    rename Fr _ _ _ _ => F5
    rename News _ _ _ _ => N5
    rename IsRange _ _ _ _ _ _ _ _ => hr5
    rename _ ∈ leastN ns 10 => hM1
    rename ∀ a, a ∈ leastN ns 10 → a ≤ _ => hM2
    have hM := maxL_eq hM1 hM2
    have hb := leastN_nonneg ns 10 _ hM1
    rw [hM] at hr5 hb
    clear hM1 hM2
    have hn5 : Builtin.Range.rangeSize 1 (maxL (leastN ns 10) + 1) 1 = ((maxL (leastN ns 10)).toNat : Int) := by rw [rangeSize_nat]; omega
    refine ⟨_, 1, _, _, _, _, _, [(L' + 1 + 1 + 1, oq4), (lst2, listOf lits ln), (L' + 1 + 1 + 1 + 1, op2), (L' + 1 + 1, ol2), (L' + 1, oc)], rfl, rfl, F5, N5, hr5, small_b (by omega) (by omega) (by omega) (by omega), hn5, ?size5, (fun i ys => IntsAre ys (endsN ns i)), .nil, ?turn5, ?fin5⟩
    case size5 => rw [sizeLine_eq]; omega
    case fin5 =>
      rintro ys D h6 tk6 hI6 F6 N6 off6
      exact hret D _ _ h6 tk6 F6.keep (N6 _ (.head _)).2.2 (N6 _ (.head _)).1 hI6
    case turn5 =>
      rintro E5 i ys I5 oI5 C5 oC5 c5 oc5 D5 h5 tk5 t5 hi5 hI5 hcd5 F6 N6 ⟨n1, n2, n3, n4, n5, n6⟩ off5 ⟨m2, hNs5⟩
      clear F5 N5
      k_steps
      rename Fr _ _ _ _ => F7
      rename News _ _ _ _ => N7
      rename IsRange _ _ _ _ _ _ _ _ => hr7
      have hn7 : Builtin.Range.rangeSize 0 ((leastN ns 10).length : Int) 1 = ((11 : Nat) : Int) := by rw [hll]; rfl
      clear hr5
      unfold Hold
      refine .inr ⟨_, 0, _, _, _, _, _, [(I5, oI5), (C5, oC5), (c5, oc5), (D5, LCg.lst ys), (L' + 1 + 1 + 1, oq4), (lst2, listOf lits ln), (L' + 1 + 1 + 1 + 1, op2), (L' + 1 + 1, ol2), (L' + 1, oc)], rfl, rfl, F7, N7, hr7, small_b (by omega) (by omega) (by omega) (by omega), hn7, by rw [sizeLine_eq]; omega, ?rest7⟩
      rintro s7 ⟨g7, rfl⟩
      refine rest_ind (fun j zs => IntsAre zs (whereAt (leastN ns 10) ((i + 1 : Nat) : Int) j)) ?step7 ?fin7 .nil
      case fin7 =>
        rintro zs hz D8 h8 tk8 F8 N8 off8
        clear F7 N7
        k_steps
        rename Fr _ _ _ _ => F9
        rename News _ _ _ _ => N9
        have hpos : 0 < (whereAt (leastN ns 10) ((i + 1 : Nat) : Int) 11).length := List.length_pos_iff.mpr (whereAt_ne (by omega))
        refine kso_max (vs := zs) F9 N9 (News.isList N9 (.head _)) hz hpos rfl ?_
        intro h10 M10 t10 tk10 F10 N10 hM1 hM2
        have hM10 := maxL_eq hM1 hM2
        refine ⟨h10, tk10, _, rfl, F10, N10, fun p hp => .tail _ hp, ?_⟩
        rw [endsN_succ, hM10]
        exact hI5.append (.cons _ _ .nil)
      case step7 =>
        rintro k zs hk hz v I8 oI8 C8 oC8 D8 m8 h8 tk8 E8 ⟨tv, rfl⟩ hNs8 hm8 F8 N8 off8 ne8
        clear F7 N7
        k_steps
        · rename List.getD _ _ _ = 1 + (i : Int) => ht
          have ek : ((0 : Int) + (k : Int)).toNat = k := by omega
          have ei : (1 : Int) + (i : Int) = ((i + 1 : Nat) : Int) := by omega
          rw [ek, ei] at ht
          refine CompEnd.intro (by assumption) (by assumption) _ ?_ off8 trivial ⟨rfl, ?_⟩
          · exact fun p hp => hp
          · rw [whereAt_succ, if_pos ht]
            have e0 : (0 : Int) + (k : Int) = k := by omega
            rw [e0]
            exact hz.append (.cons _ _ .nil)
        · rename List.getD _ _ _ ≠ 1 + (i : Int) => ht
          have ek : ((0 : Int) + (k : Int)).toNat = k := by omega
          have ei : (1 : Int) + (i : Int) = ((i + 1 : Nat) : Int) := by omega
          rw [ek, ei] at ht
          refine CompEnd.intro (by assumption) (by assumption) _ ?_ off8 trivial ⟨rfl, ?_⟩
          · exact fun p hp => hp
          · rw [whereAt_succ, if_neg ht, List.append_nil]
            exact hz
  case turn =>
    rintro E' i tq I oq' h2 tk2 m2 nw2 hi10 ⟨lst2, lits, ln, op2, vp, ol2, rfl, hlt, dp2, dl2, hli, hll⟩ hne2 hIc dq2 F2 N2
    k_steps
    rename IsRange _ _ _ _ _ _ _ _ => hr2
    rename Fr _ _ _ _ => F3
    rename News _ _ _ _ => N3
    rename _ ∧ _ => l3
    rename_i wy h3a F3x N3x h3b F3a N3a h3c tk3c t3c u3c v3c kp3
    have hsz2 : Builtin.Range.rangeSize 0 (1 + (i : Int)) 1 = ((i + 1 : Nat) : Int) := by rw [rangeSize_nat]; omega
    have hne3 : ∀ p ∈ [(wy, listOf #[] 0), (I, rngObj (1 + ((i + 1 : Nat) : Int)) (((10 : Nat) : Int) - ((i + 1 : Nat) : Int))), (L' + 1 + 1 + 1, oq'), (lst2, listOf lits ln), (L' + 1 + 1, ol2), (L' + 1, oc)], p.1 ≠ L' + 1 + 1 + 1 + 1 := by
      have z1 : @LT.lt Nat _ (L' + 1 + 1 + 1 + 1) wy := l3.2.2.2.1
      have z2 : @Ne Nat (L' + 1 + 1 + 1 + 1) I := (hne2 (L' + 1 + 1 + 1 + 1, op2) (by simp)).1
      intro p hp
      simp only [List.mem_cons, List.not_mem_nil, or_false] at hp
      rcases hp with rfl | rfl | rfl | rfl | rfl | rfl <;> exact neN (by omega)
    (try clear F3a N3a F3x N3x)
    refine iter_rng (c := L' + 1 + 1 + 1 + 1) (o0 := op2) (n := i + 1) (nw := [(wy, listOf #[] 0), (I, rngObj (1 + ((i + 1 : Nat) : Int)) (((10 : Nat) : Int) - ((i + 1 : Nat) : Int))), (L' + 1 + 1 + 1, oq'), (lst2, listOf lits ln), (L' + 1 + 1, ol2), (L' + 1, oc)])
      (fun j m' nw' => ∃ wits wn, nw' = [(wy, listOf wits wn), (I, rngObj (1 + ((i + 1 : Nat) : Int)) (((10 : Nat) : Int) - ((i + 1 : Nat) : Int))), (L' + 1 + 1 + 1, oq'), (lst2, listOf lits ln), (L' + 1 + 1, ol2), (L' + 1, oc)] ∧ IntsAre wits.toList (waysTo ns (leastN ns i) (i + 1) j) ∧ m' (Str.ofString "ways") = some (.ref wy))
      rfl hr2 (small_b (by omega) (by omega) (by omega) (by omega)) hsz2 rfl rfl rfl F3 (news_sub N3 ?sub2) dp2 hne3 ⟨#[], 0, rfl, .nil, rfl⟩ ?turn2 ?done2
    case sub2 => lcg_sub
    case done2 =>
      rintro h4 tk4 m4 nw4 op4 vp4 ⟨wits, wn, rfl, hwi, hmw⟩ F4 N4 dp4 hne4
      have em : m4 = fun y => if y = Str.ofString "ways" then some (.ref wy) else m4 y := by
        funext y
        by_cases e1 : y = Str.ofString "ways"
        · simp only [if_pos e1]; rw [e1]; exact hmw
        · simp only [if_neg e1]
      rw [em] at F4
      clear F3 N3 hne3
      k_steps
      rename Fr _ _ _ _ => F7
      rename News _ _ _ _ => N7
      refine kso_min (vs := wits.toList) F7 N7 (News.isList N7 (by k_mem)) hwi (waysTo_pos _ _ _) rfl ?_
      intro h8 M8 t8 tk8 F8 N8 hM1 hM2
      have hM := minL_eq hM1 hM2
      clear F7 N7
      have q5 : @Ne Nat lst2 I := (hne2 (lst2, listOf lits ln) (by simp)).1
      have q6 : @LT.lt Nat _ lst2 wy := l3.2.2.1
      have q4 : lits.size ≤ 100 := by
        have h1 := hli.length
        rw [Array.length_toList] at h1
        omega
      k_steps
      refine rng_end (o := oq') (nw' := [(lst2, listOf _ _), (L' + 1 + 1 + 1 + 1, op4), (L' + 1 + 1, ol2), (L' + 1, oc)]) (by assumption) (by assumption) (List.forall_mem_cons.mpr ⟨by k_mem, (List.forall_mem_cons.mpr ⟨by k_mem, (List.forall_mem_cons.mpr ⟨by k_mem, (List.forall_mem_cons.mpr ⟨by k_mem, (List.forall_mem_cons.mpr ⟨by k_mem, (List.forall_mem_cons.mpr ⟨by k_mem, List.forall_mem_nil _⟩)⟩)⟩)⟩)⟩)⟩) dq2 ?_ ⟨lst2, _, _, op4, vp4, ol2, rfl, hlt, dp4, dl2, ?_, ?_⟩
      · intro p hp
        rcases List.mem_cons.mp hp with rfl | hp
        · exact hne2 (lst2, listOf lits ln) (.head _)
        · rcases List.mem_cons.mp hp with rfl | hp
          · exact hne2 (L' + 1 + 1 + 1 + 1, op2) (.tail _ (.head _))
          · exact hne2 p (.tail _ (.tail _ hp))
      · rw [Array.toList_push, hM]
        exact hli.append (.cons _ _ .nil)
      · show (leastN ns i ++ [_]).length = _
        rw [List.length_append, hll]; rfl
    case turn2 =>
      rintro E2 j tp I3 op3 h4 tk4 m4 nw4 hji ⟨wits, wn, rfl, hwi, hmw⟩ hne4 hIc4 dp4 F4 N4
      have em : m4 = fun y => if y = Str.ofString "ways" then some (.ref wy) else m4 y := by
        funext y
        by_cases e1 : y = Str.ofString "ways"
        · simp only [if_pos e1]; rw [e1]; exact hmw
        · simp only [if_neg e1]
      rw [em] at F4
      clear F3 N3 hne3
      k_steps
      rename IsRange _ _ _ _ _ _ _ _ => hr5
      rename Fr _ _ _ _ => F5
      rename News _ _ _ _ => N5
      have ej : ((0 : Int) + (j : Int)).toNat = j := by omega
      rw [ej] at hr5 F5 ⊢
      have hbar : (ns.take j ++ [3]).findIdx (· == 3) ≤ j := by
        have h := List.findIdx_lt_length_of_exists (xs := ns.take j ++ [3]) (p := (· == 3)) ⟨3, by simp, by simp⟩
        simp only [List.length_append, List.length_take, List.length_cons, List.length_nil] at h
        omega
      have hnS : Builtin.Range.rangeSize 0 (((ns.take j ++ [3]).findIdx (· == 3) : Nat) - (1 + (i : Int)) + (0 + (j : Int)) + 1) 1 = (((((ns.take j ++ [3]).findIdx (· == 3) : Nat) - (1 + (i : Int)) + (0 + (j : Int)) + 1).toNat : Nat) : Int) := by
        rw [rangeSize_nat, Int.sub_zero]
      refine .inr ⟨_, 0, _, _, _, _, _, [(I3, rngObj (0 + ((j + 1 : Nat) : Int)) (((i + 1 : Nat) : Int) - ((j + 1 : Nat) : Int))), (L' + 1 + 1 + 1 + 1, op3), (wy, listOf wits wn), (I, rngObj (1 + ((i + 1 : Nat) : Int)) (((10 : Nat) : Int) - ((i + 1 : Nat) : Int))), (L' + 1 + 1 + 1, oq'), (lst2, listOf lits ln), (L' + 1 + 1, ol2), (L' + 1, oc)], rfl, rfl, F5, news_sub N5 ?sub5, hr5, small_b (by omega) (by omega) (by omega) (by omega), hnS, ?size5, ?rest5⟩
      case sub5 => lcg_sub
      case size5 => rw [sizeLine_eq]; omega
      case rest5 =>
        rintro s5 ⟨g5, rfl⟩
        refine rest_ind (fun k ys => ∃ zs, IntsAre ys zs ∧ (zs = [] ↔ (List.range k).any (tst ns j (i + 1)) = false)) ?step5 ?fin5 ⟨[], .nil, by simp⟩
        case fin5 =>
          rintro ys ⟨zs, hz1, hz2⟩ D6 h6 tk6 F6 N6 off6
          clear F5 N5
          have q1 : @Ne Nat wy D6 := off6.2.2.1
          have q2 : @Ne Nat wy I3 := (hne4 (wy, listOf wits wn) (by simp)).1
          have q4 : wits.size ≤ 100 := by
            have h1 := hwi.length
            have h2 : (waysTo ns (leastN ns i) (i + 1) j).length ≤ j := by
              unfold waysTo
              exact Nat.le_trans (List.length_filterMap_le _ _) (by rw [List.length_range]; exact Nat.le_refl _)
            rw [Array.length_toList] at h1
            omega
          have q3 : @LT.lt Nat _ j (leastN ns i).length := by rw [hll]; exact hji
          have hadr : ∀ (o : Obj), ∀ p ∈ [(wy, o), (I, rngObj (1 + ((i + 1 : Nat) : Int)) (((10 : Nat) : Int) - ((i + 1 : Nat) : Int))), (L' + 1 + 1 + 1, oq'), (lst2, listOf lits ln), (L' + 1 + 1, ol2), (L' + 1, oc)], p.1 ≠ I3 ∧ p.1 ≠ L' + 1 + 1 + 1 + 1 := by
            intro o p hp
            rcases List.mem_cons.mp hp with rfl | hp
            · exact hne4 (wy, listOf wits wn) (.head _)
            · exact hne4 p (.tail _ hp)
          k_steps
          · rename (1 : Int) + _ - _ = 1 => he
            refine rng_end (o := op3) (nw' := [(wy, listOf _ _), (I, rngObj (1 + ((i + 1 : Nat) : Int)) (((10 : Nat) : Int) - ((i + 1 : Nat) : Int))), (L' + 1 + 1 + 1, oq'), (lst2, listOf lits ln), (L' + 1 + 1, ol2), (L' + 1, oc)]) (by assumption) (by assumption) (List.forall_mem_cons.mpr ⟨by k_mem, (List.forall_mem_cons.mpr ⟨by k_mem, (List.forall_mem_cons.mpr ⟨by k_mem, (List.forall_mem_cons.mpr ⟨by k_mem, (List.forall_mem_cons.mpr ⟨by k_mem, (List.forall_mem_cons.mpr ⟨by k_mem, (List.forall_mem_cons.mpr ⟨by k_mem, (List.forall_mem_cons.mpr ⟨by k_mem, List.forall_mem_nil _⟩)⟩)⟩)⟩)⟩)⟩)⟩)⟩) dp4 (hadr _) ⟨_, _, rfl, ?_, rfl⟩
            · have hok : okW ns j (i + 1) = true := by
                unfold okW
                have : ((i + 1 - j) == 1) = true := by rw [beq_iff_eq]; omega
                rw [this, Bool.true_or]
              rw [waysTo_succ, hok, Array.toList_push, ej]
              exact hwi.append (.cons _ _ .nil)
          · rename (1 : Int) + _ - _ ≠ 1 => he
            rename decide (zs = []) = true => hz
            refine rng_end (o := op3) (nw' := [(wy, listOf _ _), (I, rngObj (1 + ((i + 1 : Nat) : Int)) (((10 : Nat) : Int) - ((i + 1 : Nat) : Int))), (L' + 1 + 1 + 1, oq'), (lst2, listOf lits ln), (L' + 1 + 1, ol2), (L' + 1, oc)]) (by assumption) (by assumption) (List.forall_mem_cons.mpr ⟨by k_mem, (List.forall_mem_cons.mpr ⟨by k_mem, (List.forall_mem_cons.mpr ⟨by k_mem, (List.forall_mem_cons.mpr ⟨by k_mem, (List.forall_mem_cons.mpr ⟨by k_mem, (List.forall_mem_cons.mpr ⟨by k_mem, (List.forall_mem_cons.mpr ⟨by k_mem, (List.forall_mem_cons.mpr ⟨by k_mem, List.forall_mem_nil _⟩)⟩)⟩)⟩)⟩)⟩)⟩)⟩) dp4 (hadr _) ⟨_, _, rfl, ?_, rfl⟩
            · have hok : okW ns j (i + 1) = false := (okW_any rfl he hji).trans (hz2.mp (of_decide_eq_true hz))
              rw [waysTo_succ, hok]
              simpa using hwi
          · rename (1 : Int) + _ - _ ≠ 1 => he
            rename decide (zs = []) = false => hz
            refine rng_end (o := op3) (nw' := [(wy, listOf _ _), (I, rngObj (1 + ((i + 1 : Nat) : Int)) (((10 : Nat) : Int) - ((i + 1 : Nat) : Int))), (L' + 1 + 1 + 1, oq'), (lst2, listOf lits ln), (L' + 1 + 1, ol2), (L' + 1, oc)]) (by assumption) (by assumption) (List.forall_mem_cons.mpr ⟨by k_mem, (List.forall_mem_cons.mpr ⟨by k_mem, (List.forall_mem_cons.mpr ⟨by k_mem, (List.forall_mem_cons.mpr ⟨by k_mem, (List.forall_mem_cons.mpr ⟨by k_mem, (List.forall_mem_cons.mpr ⟨by k_mem, (List.forall_mem_cons.mpr ⟨by k_mem, (List.forall_mem_cons.mpr ⟨by k_mem, List.forall_mem_nil _⟩)⟩)⟩)⟩)⟩)⟩)⟩)⟩) dp4 (hadr _) ⟨_, _, rfl, ?_, rfl⟩
            · have hok : okW ns j (i + 1) = true := by
                rw [okW_any rfl he hji]
                rw [← Bool.not_eq_false]
                exact fun h => of_decide_eq_false hz (hz2.mpr h)
              rw [waysTo_succ, hok, Array.toList_push, ej]
              exact hwi.append (.cons _ _ .nil)
        case step5 =>
          rintro k ys hk hI v I4 oI4 C4 oC4 D4 m5 h5 tk5 E5 ⟨tv, rfl⟩ hNs hm F6 N6 off6 ne6
          clear F5 N5
          k_steps
          · rename List.take _ _ = List.take _ _ => ht
            have ht := (slice_tst hji).mp ht
            refine CompEnd.intro (by assumption) (by assumption) _ ?_ off6 trivial ⟨rfl, ?_⟩
            · first | exact fun p hp => hp | lcg_sub
            · obtain ⟨zs, hz1, hz2⟩ := hI
              exact ⟨zs ++ [_], hz1.append (.cons _ _ .nil), by rw [any_succ, ht]; simp⟩
          · rename ¬ (List.take _ _ = List.take _ _) => ht
            have ht := mt (slice_tst hji).mpr ht
            rw [Bool.not_eq_true] at ht
            refine CompEnd.intro (by assumption) (by assumption) _ ?_ off6 trivial ⟨rfl, ?_⟩
            · first | exact fun p hp => hp | lcg_sub
            · obtain ⟨zs, hz1, hz2⟩ := hI
              exact ⟨zs, hz1, by rw [any_succ, ht, Bool.or_false]; exact hz2⟩
end
section
open PySem PySem.W PyProof.Rows
open PySem.Spec PySem.Calls
set_option maxRecDepth 100000
set_option pp.deepTerms false
set_option pp.maxSteps 10000
open LCg LCt
theorem fillE2 : PySem.Challenge.rw_rs0046_01 = PySem.Challenge.rw_rs0046_01 ∧ Mine.hd.heap_39 = Mine.hd.heap_39 := by
  w_top off
  k_fill
  exact ⟨rfl, rfl⟩
local macro_rules | `(tactic| walk_at "exec For") => `(tactic| (k_here; k_dflt (refine wpAny_For ?_)))
theorem cells_nil {cm : Str → Option Value} {l : List (Str × Addr)} {cells : List (Addr × Obj)} (h : CellsAre cm l cells) (e : l = []) : cells = [] := by
  subst e
  cases h
  rfl
theorem ints_item : ∀ {vs : List Value} {ns : List Int}, IntsAre vs ns → ∀ {j : Nat} {v : Value}, vs[j]? = some v → ∃ t, v = .int (ns.getD j 0) t ∧ ns[j]? = some (ns.getD j 0)
  | _, _, .nil, j, v, h => by simp at h
  | _, _, .cons n t r, 0, v, h => ⟨t, by simpa using h.symm, rfl⟩
  | _, _, .cons n t r, j + 1, v, h => by
    obtain ⟨t', e1, e2⟩ := ints_item r (j := j) (v := v) (by simpa using h)
    exact ⟨t', by rw [e1]; rfl, by simpa using e2⟩
theorem fmod_pos {a b : Int} (h : 0 < b) : 0 ≤ a.fmod b ∧ a.fmod b < b := ⟨Int.fmod_nonneg_of_pos a h, Int.fmod_lt_of_pos a h⟩
theorem upd_own {d : Addr} {o o' : Obj} : ∀ {own : List (Addr × Obj)}, (∀ p ∈ own, p.1 ≠ d) → Upd d o o' (own ++ [(d, o)]) (own ++ [(d, o')])
  | [], _ => .head fun _ h => nomatch h
  | _ :: _, h => .tail (h _ (.head _)) (upd_own fun p hp => h p (.tail _ hp))
local macro_rules | `(tactic| walk_at "eval ListComp") => `(tactic| (k_here; lcg_look; k_dflt (refine ListComp_UH (F₀ := by k_asm) (by with_unfolding_all rfl) (by decide) (by rfl) (by decide) (by rfl) ?_)))
set_option maxHeartbeats 1000000 in
theorem cells_c {w : World} {dp un : Nat} {gd : Option (List Code)} {cn : Str} {cs : Scope} {a : Addr} {ccd : Value} {cl : List (Str × Addr)} {outer : List Env} {A₀ : Around} {base h₀ : Heap} {L : Addr} {m : Str → Option Value} {s : Shared} {Q E : Value → Shared → Prop}
   {pg : Program} {ls : List Str} {mean : ExcName → Option Value} {mg mb : Str → Option Value} {l : Addr} {its : Array Value} {ns : List Int}
   (B : Below A₀ base outer h₀) (F : Fr h₀ L s.heap m) (X : (Mine.hd.heap_39 w.params).In h₀)
   (T : Top pg ls mean mg mb h₀) (hk : cs.kind = .function) (hd : dp + 6 < recursionLimit) (hu : un + 100 < cLine)
   (hl : s.heap.IsList l its) (hi : IntsAre its.toList ns) (hn : ns.length ≤ 63)
   (hret : ∀ D its' n' h' tk' cs', (∀ b o, s.heap.get? b = some o → h'.get? b = some o) → s.heap.get? D = none → h'.get? D = some (listOf its' n') → IntsAre its'.toList cs' → cs'.length = 10 → (∀ c ∈ cs', 0 ≤ c ∧ c < 1000000) → Q (.ref D) { s with heap := h', toks := tk' }) :
   wpAny (model PySem.Challenge.pw_rs0046_01 w) (ktrTop dp un gd cn cs L a ccd cl outer) (call (.ref 152) [.ref l]) Q E s := by
  refine wpAny_call ?_
  k_dflt (refine' enter_cells ?k1 ?k2 ?k3 ?k5 ?kA ?kF ?kK ?k6 ?k7 ?k8 ?k9 ?kB ?kD ?_ ?c2 ?c3 ?c4; (case kA => exact rfl); (case kF => exact rfl); (case kK => assumption); (case k1 => k_asm); (case k2 => k_asm); (case k3 => k_asm); (case k5 => k_asm); (case k6 => k_is); (case k7 => k_is); (case k8 => k_room); (case k9 => exact BindsTo.of_eq rfl); (case kB => exact rfl); (case kD => decide +kernel); (case c2 => exact rfl); (case c3 => exact rfl); (case c4 => exact rfl))
  clear X T B
  intro L' h' tk' cells' F' N' Y' B' X' T'
  have hc0 : cells' = [] := cells_nil Y' rfl
  subst hc0
  (try simp only [List.cons_append, List.nil_append] at N'); (try dsimp only); (try k_lift B'); (try k_fold)
  k_steps
  rename Fr _ _ _ fun _ => _ => F1
  rename News _ _ _ (_ :: _) => N1
  rename PairSrcL _ _ _ _ _ _ _ _ _ _ _ _ => S
  rename_i lst hA lA hB F2 N2 hC eC
  refine S _ rfl _ _ _ _ (fun i m' nw' => Hold (∃ vs ln cs, nw' = [(lst, listOf vs.toArray ln)] ∧ m' (Str.ofString "cells") = some (.ref lst) ∧ IntsAre vs cs ∧ cs.length = 10)) ?h0 ?turn ?done
  case h0 => exact ⟨_, _, _, rfl, rfl, .cons _ _ (.cons _ _ (.cons _ _ (.cons _ _ (.cons _ _ (.cons _ _ (.cons _ _ (.cons _ _ (.cons _ _ (.cons _ _ .nil))))))))), rfl⟩
  case done =>
    rintro h4 tk4 m4 nw4 F4 N4 he4 ⟨lits, ln, cs4, rfl, hm4, hi4, hc4⟩
    have em : m4 = fun y => if y = Str.ofString "cells" then some (.ref lst) else m4 y := by
      funext y
      by_cases e1 : y = Str.ofString "cells"
      · simp only [if_pos e1]; rw [e1]; exact hm4
      · simp only [if_neg e1]
    rw [em] at F4
    clear F1 N1 F2 N2 S
    k_steps
    rename Fr _ _ _ _ => F5
    rename News _ _ _ _ => N5
    unfold Hold
    refine CompSrc.ledger (news := [(lst, listOf lits.toArray ln)]) (k := ln) rfl F5 N5 (.head _) ?size5 ?rest5
    case size5 => rw [sizeLine_eq, List.size_toArray, hi4.length]; omega
    case rest5 =>
      intro g5
      refine rest_indU (fun k ys => IntsAre ys ((cs4.take k).map (fun c => c.fmod 1000000))) ?step5 ?fin5 .nil
      case fin5 =>
        rintro ys hys D6 h6 tk6 F6 N6 off6
        rw [List.take_of_length_le (by rw [List.size_toArray, hi4.length]; exact Nat.le_refl _)] at hys
        refine hret D6 ys.toArray _ h6 tk6 _ F6.keep (N6 _ (.head _)).2.2 (N6 _ (.head _)).1 (by simpa using hys) (by rw [List.length_map]; exact hc4) ?_
        intro c hc
        obtain ⟨c0, _, rfl⟩ := List.mem_map.mp hc
        exact fmod_pos (by decide)
      case step5 =>
        rintro k ys hk hys v I oI C oC D6 m6 h6 tk6 E6 hv hNs hm6 F6 N6 off6 ne6
        clear F5 N5
        obtain ⟨tv, rfl, hv2⟩ := ints_item hi4 (by simpa using hv)
        k_steps
        refine CompEnd.intro (by assumption) (by assumption) [(lst, listOf lits.toArray ln)] (fun p hp => hp) off6 (.inr ⟨_, .head _, rfl, _, rfl⟩) ⟨rfl, ?_⟩
        rw [List.take_add_one, hv2, List.map_append]
        exact hys.append (.cons _ _ .nil)
  case turn =>
    rintro i av tp vv m3 nw3 s3 own ⟨h3, tk3, rfl⟩ hai hav ⟨lits, ln, cs4, rfl, hm4, hi4, hc4⟩ he3 hoff F3 N3
    have em : m3 = fun y => if y = Str.ofString "cells" then some (.ref lst) else m3 y := by
      funext y
      by_cases e1 : y = Str.ofString "cells"
      · simp only [if_pos e1]; rw [e1]; exact hm4
      · simp only [if_neg e1]
    rw [em] at F3
    obtain ⟨_, rfl⟩ := hav
    clear F1 N1 F2 N2 S
    k_steps
    rename Fr _ _ _ _ => F5
    rename News _ _ _ _ => N5
    have hoff' : ∀ p ∈ own, p.1 ≠ lst := fun p hp => hoff p hp _ (.head _)
    have hfm : 0 ≤ (i : Int).fmod 10 ∧ (i : Int).fmod 10 < 10 := fmod_pos (by decide)
    refine ksa_set F5 N5 (upd_own hoff') hi4 (by omega) (by omega) (by omega) ?_
    intro h6 F6 N6 hi6 hl6 hs6
    clear F5 N5
    k_steps
    exact ⟨_, _, _, rfl, rfl, hi6, hl6.trans hc4⟩
end
section
open PySem PySem.W PyProof.Rows
open PySem.Spec PySem.Calls
set_option maxRecDepth 100000
open LCg
theorem off1_of {D : Addr} : ∀ {l : List (Addr × Obj)}, (∀ p ∈ l, p.1 ≠ D) → Off1 D l
  | [], _ => trivial
  | p :: _, hl => ⟨hl p (.head _), off1_of fun q hq => hl q (.tail _ hq)⟩
section
variable {prog : Program} {w : World} {s : Shared} {K : Frag} {A : Around} {tabs : List (Addr × Addr)}
  {R : Result → Shared → Prop} {name qual : Str} {params : Arguments} {body : List Stmt} {scope : Scope} {dV kV doc pm cdv ct oc : Value} {an od : Option Addr} {osl : Array (Option Value)} {f : Addr} {args : Args} {binds : List (Str × Value)}
  {pg : Program} {ls : List Str} {mean : ExcName → Option Value} {mg mb : Str → Option Value}
/-- the caller enters a def with cells; the tables of inner codes are hidden, and stand in the ledger -/
theorem enter_top (hT : TabsAt tabs s.heap) (XS : K.In s.heap) (hK : noTabs K = true) (T : Top pg ls mean mg mb s.heap)
    (ho : K.lookup f = some ⟨oc, od, .func (fnOf name qual params body scope dV kV doc pm an cdv ct), osl⟩) (hcd : codeIn K cdv qual = true)
    (hbind : BindsTo s (fnOf name qual params body scope dV kV doc pm an cdv ct) args binds) (hkind : (binds.all fun y => scope.names.lookup y.1 == some .local || scope.names.lookup y.1 == some .cell) = true)
    (hnd : ((cellsFrom 0 scope.names []).map (·.1)).Nodup)
    (h : ∀ L' h₁ tk cells, Fr (ghostOf s.heap tabs) L' h₁ (bindL (envOfC qual scope L' f cdv).kindOf binds fun _ => none) → News (ghostOf s.heap tabs) L' h₁ (cells ++ tabNews tabs) →
      CellsAre (bindC (envOfC qual scope L' f cdv).kindOf binds fun _ => none) (cellsFrom (L' + 1) scope.names []) cells → Below callerA (ghostOf s.heap tabs) [] (ghostOf s.heap tabs) → K.In (ghostOf s.heap tabs) →
      Top topProg (ls ++ (recsOf pg).map (·.name) ++ (litsOf pg).map (·.1) ++ (clssOf pg ls).map (·.name)) mean mg mb (ghostOf s.heap tabs) → (∀ p ∈ tabNews tabs, p.1 < L') →
      wpAny (model prog w) (callerA.deeper (envOfC qual scope L' f cdv)) (execs body (envOfC qual scope L' f cdv))
        (fun fl s' => R (.ok (.ret (match fl with | .ret v => v | _ => .none))) s')
        (fun e s' => wpAny (model prog w) (callerA.deeper (envOfC qual scope L' f cdv)) (leaving (envOfC qual scope L' f cdv) e) (fun _ s'' => R (.error e) s'') (fun e' s'' => R (.error e') s'') s')
        { s with heap := h₁, toks := tk })
    (hco : scope.isCoroutine = false) (hgen : scope.isGenerator = false) (hk : scope.kind = .function) : codeAny (model prog w) callerA (.call (.ref f) args) R s := by
  refine codeAny_call_function (by decide) (XS _ _ ho) rfl hco hgen rfl (codeRec_of XS hcd) (hbind _ _ _ _ ?_)
  refine wpAny_newFunctionEnv_cells hk (kindsX hkind _) fun env' he s' x => ?_
  subst he
  refine ⟨T.nolimit.keeps x.toInCall.keep, codeAny_func ?_⟩
  obtain ⟨h₁, tk, rfl, _⟩ := x.done
  obtain ⟨cells, NC, Y⟩ := Cl.news (h₀ := s.heap) (Nat.le_refl _) fun n c hm => ⟨x.cell n c (lookup_of_mem_nodup (cellsFrom_names scope.names 0 (s.heap.objs.size + 1) [] [] rfl ▸ hnd) hm), x.above n c hm⟩
  have F₁ : Fr s.heap s.heap.objs.size h₁ _ := ⟨x.toInCall.ns, x.toInCall.keep, Nat.le_refl _⟩
  exact h s.heap.objs.size h₁ tk cells (ghost_fr hT F₁) (ghost_news hT F₁ NC) Y (ghost_below hT) (ghost_K hT XS hK) (ghost_top hT T) (ghost_lt hT F₁)
end
section
variable {w : World} {dp un : Nat} {gd : Option (List Code)} {cn : Str} {cs : Scope} {a : Addr} {ccd : Value} {cl : List (Str × Addr)} {outer : List Env} {A₀ : Around} {base h₀ : Heap} {L : Addr} {m : Str → Option Value} {s : Shared} {Q E : Value → Shared → Prop}
   {pg : Program} {ls : List Str} {mean : ExcName → Option Value} {mg mb : Str → Option Value} {nw : List (Addr × Obj)} {l : Addr} {ns : List Int} {n : Nat} {vs : List Value}
theorem grown_add {h : Heap} {D : Addr} {o : Obj} (F : Fr h₀ L s.heap m) (N : News h₀ L s.heap nw) (k : ∀ b o, s.heap.get? b = some o → h.get? b = some o) (hD : s.heap.get? D = none) (hg : h.get? D = some o) : Fr h₀ L h m ∧ News h₀ L h ((D, o) :: nw) ∧ Off1 D nw := by
  refine ⟨F.keeps k, ?_, off1_of fun p hp e => ?_⟩
  · intro p hp
    rcases List.mem_cons.mp hp with rfl | hp
    · refine ⟨hg, ?_, ?_⟩
      · rintro rfl
        obtain ⟨o', _, _, ho', _⟩ := F.ns
        rw [hD] at ho'; cases ho'
      · cases e : h₀.get? D with
        | none => rfl
        | some o' => rw [F.keep _ _ e] at hD; cases hD
    · exact ⟨k _ _ (N p hp).1, (N p hp).2⟩
  · have := (N p hp).1
    rw [e, hD] at this; cases this
theorem cells_k (B : Below A₀ base outer h₀) (F : Fr h₀ L s.heap m) (X : (Mine.hd.heap_39 w.params).In h₀) (N : News h₀ L s.heap nw)
   (T : Top pg ls mean mg mb h₀) (hk : cs.kind = .function) (hd : dp + 6 < recursionLimit) (hu : un + 100 < cLine)
   (hl : h₀.IsList l vs.toArray) (hi : IntsAre vs ns) (hn : ns.length ≤ 63)
   (hret : ∀ D vs' n' h' tk' cs', Fr h₀ L h' m → News h₀ L h' ((D, listOf vs'.toArray n') :: nw) → Off1 D nw → IntsAre vs' cs' → cs'.length = 10 → (∀ c ∈ cs', 0 ≤ c ∧ c < 1000000) → Q (.ref D) { s with heap := h', toks := tk' }) :
   wpAny (model PySem.Challenge.pw_rs0046_01 w) (ktrTop dp un gd cn cs L a ccd cl outer) (call (.ref 152) [.ref l]) Q E s := by
  refine cells_c B F X T hk hd hu (hl.at fun o e => F.keep _ _ e) (by simpa using hi) hn fun D its' n' h' tk' cs' k hD hg hi' hc hb => ?_
  obtain ⟨F', N', o'⟩ := grown_add F N k hD hg
  exact hret D its'.toList n' h' tk' cs' F' N' o' hi' hc hb
theorem ends_k (B : Below A₀ base outer h₀) (F : Fr h₀ L s.heap m) (X : (Mine.hd.heap_39 w.params).In h₀) (N : News h₀ L s.heap nw)
   (T : Top pg ls mean mg mb h₀) (hk : cs.kind = .function) (hd : dp + 6 < recursionLimit) (hu : un + 100 < cLine)
   (hl : (l, listOf vs.toArray n) ∈ nw) (hi : IntsAre vs ns) (hn : ns.length = 10)
   (hret : ∀ D vs' n' h' tk', Fr h₀ L h' m → News h₀ L h' ((D, listOf vs'.toArray n') :: nw) → Off1 D nw → IntsAre vs' (endsOf ns) → Q (.ref D) { s with heap := h', toks := tk' }) :
   wpAny (model PySem.Challenge.pw_rs0046_01 w) (ktrTop dp un gd cn cs L a ccd cl outer) (call (.ref 169) [.ref l]) Q E s := by
  refine ends_c B F X T hk hd hu (N.isList hl) (by simpa using hi) hn fun D its' n' h' tk' k hD hg hi' => ?_
  obtain ⟨F', N', o'⟩ := grown_add F N k hD hg
  exact hret D its'.toList n' h' tk' F' N' o' hi'
end
section
variable {h₀ h : Heap} {L I C D T : Addr} {oI oC oD : Obj} {nw0 nw' : List (Addr × Obj)} {us : List Value} {ps : List Str} {z : Str} {ta tb : Tok} {m : Str → Option Value} {s₁ : Shared} {tk : Nat}
theorem perm4 {a b c t : Addr × Obj} {r : List (Addr × Obj)} : ∀ p ∈ a :: b :: c :: t :: r, p ∈ t :: a :: b :: c :: r := by
  intro p hp
  simp only [List.mem_cons] at hp ⊢
  rcases hp with h | h | h | h | h
  · exact .inr (.inl h)
  · exact .inr (.inr (.inl h))
  · exact .inr (.inr (.inr (.inl h)))
  · exact .inl h
  · exact .inr (.inr (.inr (.inr h)))
theorem due_close (F : Fr h₀ L h m) (N : News h₀ L h ((T, tupObj (.str (Str.ofString "") ta) (.str z tb)) :: (I, oI) :: (C, oC) :: (D, oD) :: nw')) (l : @LT.lt Nat _ I T ∧ @LT.lt Nat _ C T ∧ @LT.lt Nat _ D T ∧ AllLt T nw')
    (off : Off3 I C D nw') (hsub : ∀ p ∈ nw0, p ∈ nw') (ht : TupsAre nw' us ps) :
    CompEnd h₀ L m s₁ I oI C oC D oD (fun _ => True) (fun y nw'' => (∀ p ∈ nw0, p ∈ nw'') ∧ TupsAre nw'' (us ++ [y]) (ps ++ [z])) (.ref T) { s₁ with heap := h, toks := tk } := by
  have n1 : @Ne Nat T I := Nat.ne_of_gt l.1
  have n2 : @Ne Nat T C := Nat.ne_of_gt l.2.1
  have n3 : @Ne Nat T D := Nat.ne_of_gt l.2.2.1
  have ht' : TupsAre ((T, tupObj (.str (Str.ofString "") ta) (.str z tb)) :: nw') us ps := ht.mono fun _ hp => .tail _ hp
  exact CompEnd.intro F N ((T, tupObj (.str (Str.ofString "") ta) (.str z tb)) :: nw') perm4 ⟨⟨n1, n2, n3⟩, off⟩ trivial ⟨fun p hp => .tail _ (hsub p hp), ht'.snoc (.head _)⟩
end
end
section
open PySem PySem.W PyProof.Rows
open PySem.Spec PySem.Calls
set_option maxRecDepth 100000
open LCg
def pairD (p : Str) : PyData := .tuple [.str (Str.ofString ""), .str p]
theorem pair_lay : ∀ {ps : List Str}, (∀ p ∈ ps, PyData.strOk p = true) → PyData.canLayAll0 (ps.map pairD) = true
  | [], _ => rfl
  | p :: r, h => by
    have h0 : PyData.strOk (Str.ofString "") = true := by unfold PyData.strOk; rw [es_cps]; simp
    simp only [List.map_cons, pairD, PyData.canLayAll0, PyData.canLay0, Bool.and_true, Bool.and_eq_true]
    exact ⟨⟨h0, h p (.head _)⟩, pair_lay fun q hq => h q (.tail _ hq)⟩
theorem pair_depth : ∀ (ps : List Str), PyData.depthAll (ps.map pairD) ≤ 1
  | [] => Nat.zero_le _
  | p :: r => by
    have := pair_depth r
    simp only [List.map_cons, pairD, PyData.depthAll, PyData.depth]
    omega
theorem pairs_read {h : Heap} : ∀ {vs : List Value} {ps : List Str}, vs.length = ps.length →
    (∀ j, j < vs.length → ∃ T ta tb, vs[j]? = some (.ref T) ∧ h.get? T = some (tupObj (.str (Str.ofString "") ta) (.str (ps.getD j (Str.ofString "")) tb))) → ∃ as, ReadsAll h vs (ps.map pairD) as
  | [], [], _, _ => ⟨_, .nil⟩
  | [], _ :: _, e, _ => by cases e
  | _ :: _, [], e, _ => by cases e
  | v :: vs, p :: ps, e, H => by
    obtain ⟨as, ih⟩ := pairs_read (h := h) (vs := vs) (ps := ps) (by simpa using e) (fun j hj => by
      obtain ⟨T, ta, tb, e1, e2⟩ := H (j + 1) (by simpa using hj)
      exact ⟨T, ta, tb, by simpa using e1, by simpa using e2⟩)
    obtain ⟨T, ta, tb, e1, e2⟩ := H 0 (Nat.succ_pos _)
    have e1 : v = .ref T := by simpa using e1
    subst e1
    exact ⟨_, .cons (.tuple (n := _) e2 rfl rfl (.cons (.str _ _) (.cons (.str _ _) .nil))) ih⟩
section
variable {prog : Program} {w : World} {A : Around} {E : Value → Shared → Prop} {s : Shared} {h₀ : Heap} {L : Addr} {nw : List (Addr × Obj)} {D D' : Addr} {vs ws : List Value} {n n' : Nat} {ps : List Str} {Q : Value → Shared → Prop}
theorem tups_read (N : News h₀ L s.heap nw) (H : TupsAre nw vs ps) : ∃ as, ReadsAll s.heap vs (ps.map pairD) as := by
  obtain ⟨e, Ts, t1, t2, H⟩ := H
  exact pairs_read e fun j hj => ⟨Ts j, t1 j, t2 j, (H j hj).1, (N _ (H j hj).2).1⟩
/-- two lists of pairs that hold the same are not unlike -/
theorem ne_pairs (N : News h₀ L s.heap nw) (h1 : (D, listOf vs.toArray n) ∈ nw) (h2 : (D', listOf ws.toArray n') ∈ nw) (H1 : TupsAre nw vs ps) (H2 : TupsAre nw ws ps) (hok : ∀ p ∈ ps, PyData.strOk p = true) (hu : A.units + 4 < cLine)
    (h : Q (.bool false) s) : wpAny (model prog w) A (compareOp .NotEq (.ref D) (.ref D')) Q E s := by
  obtain ⟨as, r1⟩ := tups_read N H1
  obtain ⟨bs, r2⟩ := tups_read N H2
  have hl : PyData.canLay0 (.list (ps.map pairD)) = true := by simpa [PyData.canLay0] using pair_lay hok
  have hd := pair_depth ps
  have hdd : PyData.depth (.list (ps.map pairD)) ≤ 2 := by simp only [PyData.depth]; omega
  refine SeqAt.compareNe_reads (da := .list (ps.map pairD)) (db := .list (ps.map pairD)) (.list (n := n) (N _ h1).1 rfl rfl (by simpa using r1)) (.list (n := n') (N _ h2).1 rfl rfl (by simpa using r2)) hl hl (by omega) ?_
  rw [SeqAt.eqv_refl _ hl]
  exact h
end
section
variable {w : World} {dp un : Nat} {gd : Option (List Code)} {cn : Str} {cs : Scope} {a : Addr} {ccd : Value} {cl : List (Str × Addr)} {outer : List Env} {A₀ : Around} {base h₀ : Heap} {L : Addr} {m : Str → Option Value} {s : Shared} {Q E : Value → Shared → Prop}
   {pg : Program} {ls : List Str} {mean : ExcName → Option Value} {mg mb : Str → Option Value} {nw : Led} {text : Str} {tt ti : Tok} {mi : Int}
theorem read_k (B : Below A₀ base outer h₀) (F : Fr h₀ L s.heap m) (X : (Mine.hd.heap_39 w.params).In h₀) (N : News h₀ L s.heap nw)
   (T : Top pg ls mean mg mb h₀) (hk : cs.kind = .function) (hd : dp + 6 < recursionLimit) (hu : un + 100 < cLine)
   (h1 : (105, tabObj #[]) ∈ nw) (h2 : (112, tabObj #[]) ∈ nw) (hmi : 0 ≤ mi ∧ mi ≤ 1000) (hlen : text.length ≤ 100) (hasc : text.cps.all (· < 128) = true)
   (hret : ∀ D vs n s' nw', Sm s s' → Fr h₀ L s'.heap m → News h₀ L s'.heap nw' → (D, listOf vs.toArray n) ∈ nw' → TupsAre nw' vs (readN text text.cps.size) → TabIn nw' 105 #[] → TabIn nw' 112 #[] → (∀ p ∈ nw, p.1 ≠ 105 → p.1 ≠ 112 → p ∈ nw') → Q (.ref D) s') :
   wpAny (model PySem.Challenge.pw_rs0046_01 w) (ktrTop dp un gd cn cs L a ccd cl outer) (call (.ref 164) [.str text tt, .int mi ti]) Q E s := by
  have ht : TriplesOk (#[] : Array Value).toList := by first | exact .nil | trivial | simp [TriplesOk]
  refine read_c (nk := nw.filter fun p => p.1 != 105 && p.1 != 112) (p1 := #[]) (p2 := #[]) B F X N T hk hd hu ⟨#[], h1, Grown.refl ht⟩ ⟨#[], h2, Grown.refl ht⟩ (fun p hp => (List.mem_filter.mp hp).1) (fun p hp => ?_) hmi hlen hasc fun D vs n s' nw' hsm F' N' hD ht' t1 t2 hkp => ?_
  · have := (List.mem_filter.mp hp).2
    simpa using this
  · exact hret D vs n s' nw' hsm F' N' hD ht' t1 t2 fun p hp n1 n2 => hkp p (List.mem_filter.mpr ⟨hp, by simp [n1, n2]⟩)
end
theorem of_hold {P : Prop} (h : Hold P) : P := h
theorem off1_mem {D : Addr} : ∀ {l : List (Addr × Obj)}, Off1 D l → ∀ p ∈ l, p.1 ≠ D
  | [], _, _, h => nomatch h
  | q :: r, h, p, hp => by
    rcases List.mem_cons.mp hp with rfl | hp
    · exact h.1
    · exact off1_mem h.2 p hp
theorem TupsAre.kept {h₀ h : Heap} {L : Addr} {nw nw' : List (Addr × Obj)} {vs : List Value} {ps : List Str} {p1 p2 : Array Value} (N : News h₀ L h nw) (m1 : (105, tabObj p1) ∈ nw) (m2 : (112, tabObj p2) ∈ nw) (kp : ∀ p ∈ nw, p.1 ≠ 105 → p.1 ≠ 112 → p ∈ nw')
    (H : TupsAre nw vs ps) : TupsAre nw' vs ps := by
  obtain ⟨h1, Ts, t1, t2, H⟩ := H
  exact ⟨h1, Ts, t1, t2, fun j hj => ⟨(H j hj).1, kp _ (H j hj).2 (news_ne N (H j hj).2 m1 (by intro e; cases e)) (news_ne N (H j hj).2 m2 (by intro e; cases e))⟩⟩
theorem signs_are : ∀ {vs : List Value} {cs : List Nat}, vs.length = cs.length → (∀ (j : Nat) (v : Value), vs[j]? = some v → ∃ c u, cs[j]? = some c ∧ v = Value.str ⟨#[c]⟩ u) → StrsAre vs (cs.map sg)
  | [], [], _, _ => .nil
  | [], _ :: _, e, _ => by cases e
  | _ :: _, [], e, _ => by cases e
  | v :: vs, c :: cs, e, H => by
    obtain ⟨c', u, h1, h2⟩ := H 0 v rfl
    have h1 : c = c' := by simpa using h1
    subst h1
    subst h2
    exact .cons _ _ (signs_are (by simpa using e) fun j v hj => by
      obtain ⟨c', u', g1, g2⟩ := H (j + 1) v (by simpa using hj)
      exact ⟨c', u', by simpa using g1, g2⟩)
theorem paired_eq : ∀ {a b : List Value}, Paired (fun v y => v = y) a b → a = b
  | _, _, .nil => rfl
  | _, _, .cons h r => by rw [h, paired_eq r]
end
section
open PySem PySem.W PyProof.Rows
set_option maxRecDepth 100000
/-- a cell's sign, as the law takes it -/
def sgn (c : Int) : Str := Txt.item (Str.ofString "aAbBaB*/") (c.fmod 8)
def sgnN (c : Int) : Nat := [97, 65, 98, 66, 97, 66, 42, 47].getD (c.fmod 8).toNat 0
def codeN (c : Int) : Int := [0, 0, 1, 1, 0, 1, 2, 3].getD (c.fmod 8).toNat 0
theorem fmod8 (c : Int) : c.fmod 8 = 0 ∨ c.fmod 8 = 1 ∨ c.fmod 8 = 2 ∨ c.fmod 8 = 3 ∨ c.fmod 8 = 4 ∨ c.fmod 8 = 5 ∨ c.fmod 8 = 6 ∨ c.fmod 8 = 7 := by
  have h1 := Int.fmod_nonneg_of_pos c (show (0 : Int) < 8 by decide)
  have h2 := Int.fmod_lt_of_pos c (show (0 : Int) < 8 by decide)
  omega
theorem sgn_eq (c : Int) : sgn c = ⟨#[sgnN c]⟩ := by
  unfold sgn sgnN
  rcases fmod8 c with h | h | h | h | h | h | h | h <;> rw [h] <;> decide +kernel
theorem text_eq (cs : List Int) : cat (cs.map sgn) = ⟨(cs.map sgnN).toArray⟩ := by
  unfold cat
  congr 2
  induction cs with
  | nil => rfl
  | cons c r ih => simp [sgn_eq, ih]
theorem text_len (cs : List Int) : (cat (cs.map sgn)).length = cs.length := by
  rw [text_eq]; simp [Str.length]
theorem sum_sgn (cs : List Int) : ((cs.map sgn).map (·.length)).sum = cs.length := by
  induction cs with
  | nil => rfl
  | cons c r ih =>
    simp only [List.map_cons, List.sum_cons, List.length_cons, ih]
    have : (sgn c).length = 1 := by rw [sgn_eq]; rfl
    omega
theorem sgnN_lt (c : Int) : sgnN c < 128 := by
  unfold sgnN
  rcases fmod8 c with h | h | h | h | h | h | h | h <;> rw [h] <;> decide
theorem text_asc (cs : List Int) : (cat (cs.map sgn)).cps.all (· < 128) = true := by
  rw [text_eq, ← Array.all_toList]
  refine List.all_eq_true.mpr fun x hx => ?_
  obtain ⟨c, _, rfl⟩ := List.mem_map.mp hx
  simpa using sgnN_lt c
end
section
open PySem PySem.W PyProof.Rows
set_option maxRecDepth 100000
theorem bar_eq : ∀ (ns : List Int) (p : Nat), p ≤ ns.length → barOf ns p = min (ns.findIdx (· == 3)) p
  | _, 0, _ => by simp [barOf]
  | [], p + 1, h => by simp at h
  | c :: r, p + 1, h => by
    have ih := bar_eq r p (by simpa using h)
    unfold barOf at ih ⊢
    rw [List.take_succ_cons, List.cons_append, List.findIdx_cons, List.findIdx_cons]
    by_cases e : (c == 3) = true
    · simp [e]
    · have e' : (c == 3) = false := by simpa using e
      simp only [e', cond_false, ih]
      omega
theorem bar_mono {ns : List Int} {p p' : Nat} (h : p ≤ p') (h' : p' ≤ ns.length) : barOf ns p ≤ barOf ns p' := by
  rw [bar_eq ns p (by omega), bar_eq ns p' h']; omega
theorem bar_le {ns : List Int} {p : Nat} (h' : p ≤ ns.length) : barOf ns p ≤ p := by
  rw [bar_eq ns p h']; omega
/-- may a piece reach from p to q, in words -/
def Va (ns : List Int) (p q : Nat) : Prop := q = p + 1 ∨ ∃ s, s + (q - p) ≤ barOf ns p ∧ (ns.drop s).take (q - p) = (ns.drop p).take (q - p)
theorem okW_iff {ns : List Int} {p q : Nat} (h : p < q) : okW ns p q = true ↔ Va ns p q := by
  unfold okW Va
  rw [Bool.or_eq_true, beq_iff_eq, List.any_eq_true]
  constructor
  · rintro (e | ⟨s, hs, e⟩)
    · exact .inl (by omega)
    · rw [List.mem_range] at hs
      exact .inr ⟨s, by omega, beq_iff_eq.mp e⟩
  · rintro (e | ⟨s, hs, e⟩)
    · exact .inl (by omega)
    · exact .inr ⟨s, List.mem_range.mpr (by omega), beq_iff_eq.mpr e⟩
theorem Va.suf {ns : List Int} {p p' q : Nat} (h : Va ns p q) (h1 : p ≤ p') (h2 : p' < q) (h3 : q ≤ ns.length) : Va ns p' q := by
  rcases h with e | ⟨s, hs, e⟩
  · exact .inl (by omega)
  · refine .inr ⟨s + (p' - p), ?_, ?_⟩
    · have := bar_mono (ns := ns) h1 (by omega); omega
    · have := congrArg (List.drop (p' - p)) e
      rw [List.drop_take, List.drop_take, List.drop_drop, List.drop_drop] at this
      have e1 : p + (p' - p) = p' := by omega
      have e2 : q - p - (p' - p) = q - p' := by omega
      rw [e1, e2] at this
      exact this
theorem Va.pre {ns : List Int} {p q q' : Nat} (h : Va ns p q) (h1 : p < q') (h2 : q' ≤ q) : Va ns p q' := by
  rcases h with e | ⟨s, hs, e⟩
  · exact .inl (by omega)
  · refine .inr ⟨s, by omega, ?_⟩
    have := congrArg (List.take (q' - p)) e
    rw [List.take_take, List.take_take, Nat.min_eq_left (by omega)] at this
    exact this
/-- the place that the reading comes to from a: the last one that it may reach sign by sign -/
def IsNxt (ns : List Int) (a q : Nat) : Prop := a < q ∧ q ≤ ns.length ∧ (∀ i, a < i → i ≤ q → Va ns a i) ∧ (q = ns.length ∨ ¬ Va ns a (q + 1))
noncomputable def lsq (ns : List Int) (q : Nat) : Int := (leastN ns 10).getD q 0
theorem lsq_zero (ns : List Int) : lsq ns 0 = 0 := leastN_getD ns (Nat.zero_le 10)
theorem lsq_succ {ns : List Int} {q : Nat} (h : q + 1 ≤ 10) : lsq ns (q + 1) = minL (waysTo ns (leastN ns q) (q + 1) (q + 1)) := by
  unfold lsq
  rw [leastN_getD ns h, leastN_last]
theorem minL_mem {l : List Int} (h : l ≠ []) : minL l ∈ l := by
  cases l with
  | nil => exact absurd rfl h
  | cons x r =>
    obtain ⟨a1, a2, a3⟩ := foldl_min_le r x
    rcases a3 with a3 | a3
    · show r.foldl min x ∈ _; rw [a3]; exact .head _
    · exact .tail _ a3
theorem mem_ways {ns : List Int} {q : Nat} (hq : q + 1 ≤ 10) {v : Int} : v ∈ waysTo ns (leastN ns q) (q + 1) (q + 1) ↔ ∃ p, p < q + 1 ∧ Va ns p (q + 1) ∧ v = lsq ns p + 1 := by
  unfold waysTo
  rw [List.mem_filterMap]
  constructor
  · rintro ⟨p, hp, e⟩
    rw [List.mem_range] at hp
    split at e
    · rename_i hok
      refine ⟨p, hp, (okW_iff hp).mp hok, ?_⟩
      rw [← Option.some.inj e]
      unfold lsq
      rw [leastN_getD ns (n := 10) (q := p) (by omega), leastN_getD ns (n := q) (q := p) (by omega)]
    · cases e
  · rintro ⟨p, hp, hV, rfl⟩
    refine ⟨p, List.mem_range.mpr hp, ?_⟩
    rw [if_pos ((okW_iff hp).mpr hV)]
    unfold lsq
    rw [leastN_getD ns (n := 10) (q := p) (by omega), leastN_getD ns (n := q) (q := p) (by omega)]
theorem lsq_way {ns : List Int} {q : Nat} (h0 : 0 < q) (h : q ≤ 10) : ∃ p, p < q ∧ Va ns p q ∧ lsq ns q = lsq ns p + 1 := by
  obtain ⟨q, rfl⟩ : ∃ k, q = k + 1 := ⟨q - 1, by omega⟩
  have hne : waysTo ns (leastN ns q) (q + 1) (q + 1) ≠ [] := by
    intro e; have := waysTo_pos ns (leastN ns q) q; rw [e] at this; exact absurd this (by decide)
  have hm := minL_mem hne
  rw [← lsq_succ h] at hm
  exact (mem_ways h).mp hm
theorem lsq_le {ns : List Int} {p q : Nat} (hp : p < q) (h : q ≤ 10) (hV : Va ns p q) : lsq ns q ≤ lsq ns p + 1 := by
  obtain ⟨q, rfl⟩ : ∃ k, q = k + 1 := ⟨q - 1, by omega⟩
  rw [lsq_succ h]
  exact minL_le ((mem_ways h).mpr ⟨p, hp, hV, rfl⟩)
theorem lsq_nonneg {ns : List Int} {q : Nat} (h : q ≤ 10) : 0 ≤ lsq ns q := by
  refine (leastN_nonneg ns 10 _ ?_).1
  unfold lsq
  rw [List.getD_eq_getElem?_getD, List.getElem?_eq_getElem (by rw [leastN_length]; omega), Option.getD_some]
  exact List.getElem_mem _
section
variable {ns : List Int} {b : Nat → Nat}
/-- the table's numbers by the reading's places -/
theorem lsq_iff (hn : ns.length = 10) (b0 : b 0 = 0) (hb : ∀ k, b k ≤ 10) (step : ∀ k, (b k = 10 ∧ b (k + 1) = 10) ∨ (b k < 10 ∧ IsNxt ns (b k) (b (k + 1)))) :
    ∀ (k : Nat) (q : Nat), q ≤ 10 → (lsq ns q ≤ k ↔ q ≤ b k)
  | 0, q, hq => by
    rw [b0]
    constructor
    · intro h
      rcases Nat.eq_zero_or_pos q with h0 | h0
      · omega
      · obtain ⟨p, hp, _, e⟩ := lsq_way (ns := ns) h0 hq
        have := lsq_nonneg (ns := ns) (q := p) (by omega)
        omega
    · intro h
      have : q = 0 := by omega
      rw [this, lsq_zero]; exact Int.le_refl _
  | k + 1, q, hq => by
    have ih := lsq_iff hn b0 hb step k
    have mono : b k ≤ b (k + 1) := by
      rcases step k with ⟨h1, h2⟩ | ⟨_, h2⟩
      · omega
      · exact Nat.le_of_lt h2.1
    constructor
    · intro h
      rcases Nat.eq_zero_or_pos q with h0 | h0
      · omega
      · obtain ⟨p, hp, hV, e⟩ := lsq_way (ns := ns) h0 hq
        have hp1 := (ih p (by omega)).mp (by omega)
        rcases step k with ⟨h1, h2⟩ | ⟨h1, h2, h3, h4, h5⟩
        · omega
        · refine Classical.byContradiction fun hc => ?_
          have hV' := hV.suf hp1 (by omega) (by omega)
          rcases h5 with h5 | h5
          · omega
          · exact h5 (hV'.pre (by omega) (by omega))
    · intro h
      by_cases hk : q ≤ b k
      · have := (ih q hq).mpr hk; omega
      · rcases step k with ⟨h1, h2⟩ | ⟨h1, h2, h3, h4, h5⟩
        · omega
        · have h6 := h4 q (by omega) h
          have h7 := lsq_le (ns := ns) (p := b k) (q := q) (by omega) hq h6
          have h8 := (ih (b k) (hb k)).mpr (Nat.le_refl _)
          omega
theorem mem_where {q : Nat} {v : Int} (k : Int) : v ∈ whereAt (leastN ns 10) k 11 ↔ ∃ q, q ≤ 10 ∧ lsq ns q = k ∧ v = (q : Int) := by
  unfold whereAt
  rw [List.mem_map]
  constructor
  · rintro ⟨q, hq, rfl⟩
    obtain ⟨h1, h2⟩ := List.mem_filter.mp hq
    rw [List.mem_range] at h1
    exact ⟨q, by omega, by simpa [lsq] using h2, rfl⟩
  · rintro ⟨q, h1, h2, rfl⟩
    exact ⟨q, List.mem_filter.mpr ⟨List.mem_range.mpr (by omega), by simpa [lsq] using h2⟩, rfl⟩
theorem ends_eq (hn : ns.length = 10) (b0 : b 0 = 0) (hb : ∀ k, b k ≤ 10) (step : ∀ k, (b k = 10 ∧ b (k + 1) = 10) ∨ (b k < 10 ∧ IsNxt ns (b k) (b (k + 1)))) :
    ∃ K, K ≤ 10 ∧ endsOf ns = (List.range K).map (fun k => (b (k + 1) : Int)) ∧ b K = 10 ∧ ∀ k, k < K → b k < 10 := by
  have iff := lsq_iff hn b0 hb step
  have hm := maxL_mem (l := leastN ns 10) (by intro e; have := leastN_length ns 10; rw [e] at this; cases this)
  have hbd := leastN_nonneg ns 10 _ hm
  generalize hM : maxL (leastN ns 10) = M at hm hbd
  obtain ⟨q0, hq0, e0⟩ := List.getElem_of_mem hm
  rw [leastN_length] at hq0
  have e0' : lsq ns q0 = M := by unfold lsq; rw [List.getD_eq_getElem?_getD, List.getElem?_eq_getElem (by rw [leastN_length]; omega), Option.getD_some, e0]
  have hall : ∀ q, q ≤ 10 → lsq ns q ≤ M := by
    intro q hq
    rw [← hM]
    refine maxL_le ?_
    unfold lsq
    rw [List.getD_eq_getElem?_getD, List.getElem?_eq_getElem (by rw [leastN_length]; omega), Option.getD_some]
    exact List.getElem_mem _
  have hK : ((M.toNat : Nat) : Int) = M := by omega
  have bK : b M.toNat = 10 := by
    have := (iff M.toNat 10 (Nat.le_refl _)).mp (by rw [hK]; exact hall 10 (Nat.le_refl _))
    have := hb M.toNat
    omega
  have blt : ∀ k, k < M.toNat → b k < 10 := by
    intro k hk
    refine Classical.byContradiction fun hc => ?_
    have := (iff k q0 (by omega)).mpr (by have := hb k; omega)
    omega
  refine ⟨M.toNat, by omega, ?_, bK, blt⟩
  unfold endsOf endsN
  rw [hM]
  refine List.map_congr_left fun k hk => ?_
  rw [List.mem_range] at hk
  symm
  have bk := blt k hk
  have nx : IsNxt ns (b k) (b (k + 1)) := by
    rcases step k with ⟨h1, _⟩ | ⟨_, h2⟩
    · omega
    · exact h2
  refine maxL_eq ((mem_where (q := 0) _).mpr ⟨b (k + 1), hb _, ?_, rfl⟩) ?_
  · have h1 := (iff (k + 1) (b (k + 1)) (hb _)).mpr (Nat.le_refl _)
    have h2 := mt (iff k (b (k + 1)) (hb _)).mp (by have := nx.1; omega)
    omega
  · intro v hv
    obtain ⟨q, h1, h2, rfl⟩ := (mem_where (q := 0) _).mp hv
    have := (iff (k + 1) q h1).mp (by omega)
    omega
end
end
section
open PySem PySem.W PyProof.Rows PySem.Builtin PySem.Builtin.Str
set_option maxRecDepth 100000
theorem slash_eq : Str.ofString "/" = ⟨#[47]⟩ := by decide +kernel
theorem star_eq : Str.ofString "*" = ⟨#[42]⟩ := by decide +kernel
theorem c_eq : Str.ofString "c" = ⟨#[99]⟩ := by decide +kernel
theorem C_eq : Str.ofString "C" = ⟨#[67]⟩ := by decide +kernel
theorem head_eq (l : List Nat) : headOf ⟨l.toArray⟩ = ⟨(l.take (l.findIdx (· == 47))).toArray⟩ := by
  unfold headOf Txt.split
  rw [slash_eq]
  have hy : (⟨#[47]⟩ : Str).length = 1 := rfl
  have hk : strKind (⟨#[47]⟩ : Str) = 1 := by decide +kernel
  have hkx : decide (strKind (⟨l.toArray⟩ : Str) < 1) = false := by
    rw [decide_eq_false_iff_not]
    unfold Builtin.Str.strKind
    split
    · omega
    · split <;> omega
  rw [hy, hk, hkx, Bool.or_false]
  have hlen : (⟨l.toArray⟩ : Str).length = l.length := by simp [Str.length]
  rcases StrLaws.occ_head ⟨l.toArray⟩ ⟨#[47]⟩ ((⟨l.toArray⟩ : Str).length + 1) (by omega) with ⟨h0, hn⟩ | ⟨i, r, h0, hi, hn⟩
  · rw [h0]
    have hno : ∀ i : Nat, l[i]? ≠ some 47 := by
      intro i e
      exact hn i ((StrLaws.subAt_one _ 47 i).mpr (by simpa using e))
    have hf : l.findIdx (· == 47) = l.length := by
      rw [List.findIdx_eq_length]
      intro x hx
      obtain ⟨i, hi⟩ := List.getElem?_of_mem hx
      have := hno i
      rw [hi] at this
      simpa using this
    rw [hf, List.take_length]
    simp
  · rw [h0]
    have hi' : l[i]? = some 47 := by simpa using (StrLaws.subAt_one ⟨l.toArray⟩ 47 i).mp hi
    obtain ⟨hlt, he⟩ := List.getElem?_eq_some_iff.mp hi'
    have hf : l.findIdx (· == 47) = i := by
      rw [List.findIdx_eq hlt]
      refine ⟨by simp [he], fun j hj => ?_⟩
      have h1 := mt (StrLaws.subAt_one ⟨l.toArray⟩ 47 j).mpr (hn j hj)
      have hjl : j < l.length := by omega
      have h2 : ¬ l[j]? = some 47 := by simpa using h1
      rw [List.getElem?_eq_getElem hjl] at h2
      simpa using h2
    rw [hf]
    have hlt1 : decide ((⟨l.toArray⟩ : Str).length < 1) = false := by rw [hlen, decide_eq_false_iff_not]; omega
    rw [hlt1]
    simp only [Bool.false_eq_true, if_false, List.isEmpty_cons]
    show (List.map _ (List.zip (0 :: _) ((i :: r) ++ _)))[0]?.getD _ = _
    show strSub ⟨l.toArray⟩ 0 i = _
    have := StrLaws.strSub_toList ⟨l.toArray⟩ 0 i
    exact congrArg Str.mk (Array.toList_inj.mp (by simp))
theorem findIdx_snoc : ∀ l : List Int, (l ++ [3]).findIdx (· == 3) = l.findIdx (· == 3)
  | [] => rfl
  | c :: r => by
    rw [List.cons_append, List.findIdx_cons, List.findIdx_cons, findIdx_snoc r]
theorem codeN_range (c : Int) : codeN c = 0 ∨ codeN c = 1 ∨ codeN c = 2 ∨ codeN c = 3 := by
  unfold codeN
  rcases fmod8 c with h | h | h | h | h | h | h | h <;> rw [h] <;> decide
def chrN (k : Int) : Nat := [97, 98, 42, 47].getD k.toNat 0
def unchr (x : Nat) : Int := if x = 97 then 0 else if x = 98 then 1 else if x = 42 then 2 else 3
theorem chr_code (c : Int) : chrN (codeN c) = lo1 (sgnN c) := by
  unfold chrN codeN sgnN
  rcases fmod8 c with h | h | h | h | h | h | h | h <;> rw [h] <;> decide
theorem unchr_sgn (c : Int) : unchr (lo1 (sgnN c)) = codeN c := by
  rw [← chr_code]
  rcases codeN_range c with h | h | h | h <;> rw [h] <;> decide
theorem slash_iff (c : Int) : (sgnN c == 47) = (codeN c == 3) := by
  unfold codeN sgnN
  rcases fmod8 c with h | h | h | h | h | h | h | h <;> rw [h] <;> decide
theorem lo_ne99 (c : Int) : lo1 (sgnN c) ≠ 99 := by
  rw [← chr_code]
  rcases codeN_range c with h | h | h | h <;> rw [h] <;> decide
theorem findIdx_sgn : ∀ l : List Int, (l.map sgnN).findIdx (· == 47) = (l.map codeN).findIdx (· == 3)
  | [] => rfl
  | c :: r => by
    rw [List.map_cons, List.map_cons, List.findIdx_cons, List.findIdx_cons, findIdx_sgn r]
    show (match sgnN c == 47 with | true => _ | false => _) = (match codeN c == 3 with | true => _ | false => _)
    rw [slash_iff]
theorem lower_list (l : List Nat) (h : ∀ c ∈ l, c < 128) : Txt.lower ⟨l.toArray⟩ = ⟨(l.map lo1).toArray⟩ := by
  rw [lower_ascii (by simpa using h)]
  simp
/-- the eyes of the record: the lower signs ahead of the slash -/
theorem eyes_eq (cells : List Int) (a : Nat) : Txt.lower (headOf ⟨((cells.map sgnN).take a).toArray⟩) = ⟨(((cells.take (barOf (cells.map codeN) a)).map fun c => lo1 (sgnN c))).toArray⟩ := by
  rw [head_eq]
  have hb : ((cells.map sgnN).take a).findIdx (· == 47) = barOf (cells.map codeN) a := by
    unfold barOf
    rw [findIdx_snoc, ← List.map_take, ← List.map_take, findIdx_sgn]
  have hba : barOf (cells.map codeN) a ≤ a := by
    rw [← hb]
    exact Nat.le_trans List.findIdx_le_length (by rw [List.length_take]; omega)
  rw [hb, List.take_take, Nat.min_eq_left hba, ← List.map_take, lower_list, List.map_map]
  · rfl
  · intro c hc
    obtain ⟨x, _, rfl⟩ := List.mem_map.mp hc
    exact sgnN_lt x
theorem hits_one (cells : List Int) (k c : Nat) (hc : c = 99 ∨ c = 67) : hits ⟨((cells.take k).map fun c => lo1 (sgnN c)).toArray⟩ ⟨#[c]⟩ = false := by
  unfold hits
  have e : Txt.lower (⟨#[c]⟩ : Str) = ⟨#[99]⟩ := by
    rw [show (⟨#[c]⟩ : Str) = ⟨[c].toArray⟩ from rfl, lower_list [c] (by intro x hx; rw [List.mem_singleton.mp hx]; rcases hc with rfl | rfl <;> decide)]
    rcases hc with rfl | rfl <;> decide
  rw [e, StrLaws.found_one]
  rw [Bool.and_eq_false_iff]
  right
  rw [decide_eq_false_iff_not]
  intro hm
  obtain ⟨x, _, hx⟩ := List.mem_map.mp (show 99 ∈ ((cells.take k).map fun c => lo1 (sgnN c)) by simpa using hm)
  exact lo_ne99 x hx
theorem okAt_iff (cells : List Int) {a j : Nat} (hj : 2 ≤ j) (ha : a + j ≤ cells.length) :
    okAt ⟨((cells.map sgnN).take a).toArray⟩ ⟨(((cells.map sgnN).drop a).take j).toArray⟩ = true ↔ Va (cells.map codeN) a (a + j) := by
  have hbl : barOf (cells.map codeN) a ≤ cells.length := Nat.le_trans (bar_le (by rw [List.length_map]; omega)) (by omega)
  unfold okAt appl agents
  rw [eyes_eq]
  generalize hb : barOf (cells.map codeN) a = bar at hbl
  have hc := hits_one cells bar 99 (.inl rfl)
  have hC := hits_one cells bar 67 (.inr rfl)
  have hs : hits ⟨((cells.take bar).map fun c => lo1 (sgnN c)).toArray⟩ (Str.ofString "*") = false := by
    unfold hits
    simp
  simp only [List.any_cons, List.any_nil, hs, Bool.false_or, Bool.or_false]
  rw [c_eq, C_eq, hc, hC, Bool.false_or, Bool.or_false]
  have hpl : (((cells.map sgnN).drop a).take j).length = j := by simp; omega
  have hps : ((⟨(((cells.map sgnN).drop a).take j).toArray⟩ : Str) == Str.ofString "*") = false := by
    rw [star_eq, beq_eq_false_iff_ne]
    intro e
    have := congrArg Str.length e
    simp only [Str.length, List.size_toArray, hpl] at this
    rw [show ([42] : List Nat).length = 1 from rfl] at this
    omega
  unfold hits
  rw [hps, Bool.not_false, Bool.true_and, lower_list _ (by
    intro c hc
    obtain ⟨x, _, rfl⟩ := List.mem_map.mp (List.mem_of_mem_drop (List.mem_of_mem_take hc))
    exact sgnN_lt x)]
  rw [StrLaws.found_iff]
  have hlp : (⟨((((cells.map sgnN).drop a).take j).map lo1).toArray⟩ : Str).length = j := by simp [Str.length]; omega
  have hlu : (⟨((cells.take bar).map fun c => lo1 (sgnN c)).toArray⟩ : Str).length = bar := by simp [Str.length]; omega
  have hp : (((cells.map sgnN).drop a).take j).map lo1 = ((cells.drop a).take j).map fun c => lo1 (sgnN c) := by
    rw [← List.map_drop, ← List.map_take, List.map_map]; rfl
  have key : ∀ s, s + j ≤ bar → ((((cells.take bar).map fun c => lo1 (sgnN c)).drop s).take j = ((cells.drop a).take j).map (fun c => lo1 (sgnN c)) ↔ ((cells.map codeN).drop s).take j = ((cells.map codeN).drop a).take j) := by
    intro s hs'
    have e1 : (((cells.take bar).map fun c => lo1 (sgnN c)).drop s).take j = ((cells.drop s).take j).map fun c => lo1 (sgnN c) := by
      rw [← List.map_drop, ← List.map_take, List.drop_take, List.take_take, Nat.min_eq_left (by omega)]
    rw [e1, ← List.map_drop, ← List.map_take, ← List.map_drop, ← List.map_take]
    constructor
    · intro e
      have := congrArg (List.map unchr) e
      rw [List.map_map, List.map_map] at this
      have ef : (unchr ∘ fun c => lo1 (sgnN c)) = codeN := funext unchr_sgn
      rw [ef] at this
      exact this
    · intro e
      have := congrArg (List.map chrN) e
      rw [List.map_map, List.map_map] at this
      have ef : (chrN ∘ codeN) = fun c => lo1 (sgnN c) := funext chr_code
      rw [ef] at this
      exact this
  unfold Va
  rw [hb]
  have e3 : a + j - a = j := by omega
  rw [e3, hlp, hlu]
  constructor
  · rintro ⟨i, h1, h2⟩
    refine .inr ⟨i, h1, (key i h1).mp ?_⟩
    rw [StrLaws.subAt_eq, beq_iff_eq, hlp] at h2
    rw [← hp]
    simpa using h2
  · rintro (e | ⟨s, h1, h2⟩)
    · omega
    · refine ⟨s, h1, ?_⟩
      rw [StrLaws.subAt_eq, beq_iff_eq, hlp]
      have := (key s h1).mpr h2
      rw [← hp] at this
      simpa using this
theorem star_any (cells : List Int) : (cells.map sgn).any (· == Str.ofString "*") = decide (2 ∈ cells.map codeN) := by
  have h1 : ∀ c, (sgn c == Str.ofString "*") = decide (codeN c = 2) := by
    intro c
    rw [sgn_eq, star_eq]
    unfold sgnN codeN
    rcases fmod8 c with h | h | h | h | h | h | h | h <;> rw [h] <;> decide
  rw [Bool.eq_iff_iff, List.any_eq_true, decide_eq_true_eq, List.mem_map]
  constructor
  · rintro ⟨x, hx, e⟩
    obtain ⟨c, hc, rfl⟩ := List.mem_map.mp hx
    rw [h1, decide_eq_true_eq] at e
    exact ⟨c, hc, e⟩
  · rintro ⟨c, hc, e⟩
    exact ⟨sgn c, List.mem_map.mpr ⟨c, hc, rfl⟩, by rw [h1, decide_eq_true_eq]; exact e⟩
end
section
open PySem PySem.W PyProof.Rows
set_option maxRecDepth 100000
theorem grow_walk {ok : Str → Bool} {t : List Nat} {a : Nat} {V : Nat → Prop} (hok : ∀ j, 2 ≤ j → a + j ≤ t.length → (ok ⟨((t.drop a).take j).toArray⟩ = true ↔ V (a + j))) :
    ∀ (k j : Nat), a + j + k = t.length → ∃ j', j ≤ j' ∧ a + j' ≤ t.length ∧ grow ok ((t.drop a).take j) (t.drop (a + j)) = (t.drop a).take j' ∧ (∀ i, j < i → i ≤ j' → i = 1 ∨ V (a + i)) ∧ (a + j' = t.length ∨ (1 ≤ j' ∧ ¬ V (a + j' + 1)))
  | 0, j, h => by
    refine ⟨j, Nat.le_refl _, by omega, ?_, fun i h1 h2 => by omega, .inl (by omega)⟩
    rw [show a + j = t.length by omega, List.drop_length]
    rfl
  | k + 1, j, h => by
    have hlt : a + j < t.length := by omega
    have hc : t[a + j]? = some t[a + j] := List.getElem?_eq_getElem hlt
    generalize t[a + j] = c at hc
    have hc2 : (t.drop a)[j]? = some c := by rw [List.getElem?_drop]; exact hc
    rw [drop_c hc]
    have hl : ((t.drop a).take j ++ [c]).length = j + 1 := by
      rw [List.length_append, List.length_take, List.length_drop]; simp; omega
    by_cases hs : 1 < ((t.drop a).take j ++ [c]).length ∧ ok ⟨((t.drop a).take j ++ [c]).toArray⟩ = false
    · refine ⟨j, Nat.le_refl _, by omega, grow_stop hs.1 hs.2, fun i h1 h2 => by omega, .inr ⟨by omega, fun hV => ?_⟩⟩
      have h2 := hs.2
      rw [take_c hc2] at h2
      have := (hok (j + 1) (by omega) (by omega)).mpr hV
      rw [h2] at this
      cases this
    · rw [grow_on hs, take_c hc2]
      obtain ⟨j', h1, h2, h3, h4, h5⟩ := grow_walk hok k (j + 1) (by omega)
      refine ⟨j', by omega, h2, h3, fun i hi1 hi2 => ?_, h5⟩
      by_cases e : i = j + 1
      · by_cases e1 : j + 1 = 1
        · exact .inl (by omega)
        · right
          subst e
          refine (hok (j + 1) (by omega) (by omega)).mp ?_
          rw [take_c hc2] at hs
          rw [← Bool.not_eq_false]
          intro hf
          exact hs ⟨by rw [List.length_take, List.length_drop]; omega, hf⟩
      · exact h4 i (by omega) hi2
theorem cat_snoc (ps : List Str) (l m : List Nat) (h : cat ps = ⟨l.toArray⟩) : cat (ps ++ [⟨m.toArray⟩]) = ⟨(l ++ m).toArray⟩ := by
  unfold cat at h ⊢
  have h1 : ps.flatMap (·.cps.toList) = l := by
    have := congrArg (fun s : Str => s.cps.toList) h
    simpa using this
  rw [List.flatMap_append, h1]
  simp
theorem read_one (cells : List Int) (h : cells.length = 10) (k a : Nat) (ha : a ≤ 10) (hcat : cat (readN ⟨(cells.map sgnN).toArray⟩ k) = ⟨((cells.map sgnN).take a).toArray⟩) :
    ∃ q, cat (readN ⟨(cells.map sgnN).toArray⟩ (k + 1)) = ⟨((cells.map sgnN).take q).toArray⟩ ∧ q ≤ 10 ∧
      ((a = 10 ∧ q = 10 ∧ readN ⟨(cells.map sgnN).toArray⟩ (k + 1) = readN ⟨(cells.map sgnN).toArray⟩ k) ∨
       (a < 10 ∧ IsNxt (cells.map codeN) a q ∧ readN ⟨(cells.map sgnN).toArray⟩ (k + 1) = readN ⟨(cells.map sgnN).toArray⟩ k ++ [⟨(((cells.map sgnN).drop a).take (q - a)).toArray⟩])) := by
  have hlen : (cells.map sgnN).length = 10 := by rw [List.length_map]; exact h
  have hr : restOf ⟨(cells.map sgnN).toArray⟩ (readN ⟨(cells.map sgnN).toArray⟩ k) = (cells.map sgnN).drop a := by
    unfold restOf
    rw [hcat]
    have : (⟨((cells.map sgnN).take a).toArray⟩ : Str).length = a := by
      show (List.toArray _).size = a
      rw [List.size_toArray, List.length_take, hlen]; omega
    rw [this]
  have hs : readN ⟨(cells.map sgnN).toArray⟩ (k + 1) = stepR ⟨(cells.map sgnN).toArray⟩ (readN ⟨(cells.map sgnN).toArray⟩ k) := rfl
  unfold stepR at hs
  rw [hr] at hs
  by_cases ea : a = 10
  · have e0 : (cells.map sgnN).drop a = [] := List.drop_eq_nil_of_le (by omega)
    rw [if_pos e0] at hs
    exact ⟨10, by rw [hs, hcat, ea], Nat.le_refl _, .inl ⟨ea, rfl, hs⟩⟩
  · have e0 : ¬ (cells.map sgnN).drop a = [] := by
      intro e
      have := congrArg List.length e
      rw [List.length_drop, hlen] at this
      simp at this
      omega
    rw [if_neg e0, hcat] at hs
    obtain ⟨j', h1, h2, h3, h4, h5⟩ := grow_walk (ok := okAt ⟨((cells.map sgnN).take a).toArray⟩) (t := cells.map sgnN) (a := a) (V := Va (cells.map codeN) a) (fun j hj haj => okAt_iff cells hj (by rw [List.length_map] at haj; exact haj)) (10 - a) 0 (by omega)
    rw [Nat.add_zero, List.take_zero] at h3
    rw [h3] at hs
    have hj : 1 ≤ j' := by
      rcases h5 with h5 | h5
      · omega
      · exact h5.1
    refine ⟨a + j', ?_, by omega, .inr ⟨by omega, ⟨by omega, by rw [List.length_map]; omega, fun i hi1 hi2 => ?_, ?_⟩, ?_⟩⟩
    · rw [hs, cat_snoc _ _ _ hcat, ← List.take_add]
    · rcases h4 (i - a) (by omega) (by omega) with e | e
      · exact .inl (by omega)
      · rw [show a + (i - a) = i by omega] at e
        exact e
    · rcases h5 with h5 | h5
      · exact .inl (by rw [List.length_map]; omega)
      · exact .inr h5.2
    · rw [hs, show a + j' - a = j' by omega]
theorem read_at (cells : List Int) (h : cells.length = 10) : ∀ k, ∃ a, a ≤ 10 ∧ cat (readN ⟨(cells.map sgnN).toArray⟩ k) = ⟨((cells.map sgnN).take a).toArray⟩
  | 0 => ⟨0, Nat.zero_le _, rfl⟩
  | k + 1 => by
    obtain ⟨a, ha, hcat⟩ := read_at cells h k
    obtain ⟨q, h1, h2, _⟩ := read_one cells h k a ha hcat
    exact ⟨q, h2, h1⟩
noncomputable def bAt (cells : List Int) (k : Nat) : Nat := (cat (readN ⟨(cells.map sgnN).toArray⟩ k)).length
theorem len_take {cells : List Int} (h : cells.length = 10) {a : Nat} (ha : a ≤ 10) : (⟨((cells.map sgnN).take a).toArray⟩ : Str).length = a := by
  show (List.toArray _).size = a
  rw [List.size_toArray, List.length_take, List.length_map, h]; omega
theorem bAt_cat (cells : List Int) (h : cells.length = 10) (k : Nat) : bAt cells k ≤ 10 ∧ cat (readN ⟨(cells.map sgnN).toArray⟩ k) = ⟨((cells.map sgnN).take (bAt cells k)).toArray⟩ := by
  obtain ⟨a, ha, hcat⟩ := read_at cells h k
  have : bAt cells k = a := by unfold bAt; rw [hcat, len_take h ha]
  rw [this]
  exact ⟨ha, hcat⟩
noncomputable def pieceAt (cells : List Int) (k : Nat) : Str := ⟨(((cells.map sgnN).drop (bAt cells k)).take (bAt cells (k + 1) - bAt cells k)).toArray⟩
theorem bAt_step (cells : List Int) (h : cells.length = 10) (k : Nat) : (bAt cells k = 10 ∧ bAt cells (k + 1) = 10 ∧ readN ⟨(cells.map sgnN).toArray⟩ (k + 1) = readN ⟨(cells.map sgnN).toArray⟩ k) ∨
    (bAt cells k < 10 ∧ IsNxt (cells.map codeN) (bAt cells k) (bAt cells (k + 1)) ∧ readN ⟨(cells.map sgnN).toArray⟩ (k + 1) = readN ⟨(cells.map sgnN).toArray⟩ k ++ [pieceAt cells k]) := by
  obtain ⟨h1, h2⟩ := bAt_cat cells h k
  obtain ⟨q, h3, h4, h5⟩ := read_one cells h k _ h1 h2
  have : bAt cells (k + 1) = q := by unfold bAt; rw [h3, len_take h h4]
  unfold pieceAt
  rw [this]
  exact h5
theorem read_pieces (cells : List Int) (h : cells.length = 10) {K : Nat} (hK : ∀ k, k < K → bAt cells k < 10) : ∀ k, k ≤ K → readN ⟨(cells.map sgnN).toArray⟩ k = (List.range k).map (pieceAt cells)
  | 0, _ => rfl
  | k + 1, hk => by
    have ih := read_pieces cells h hK k (by omega)
    rcases bAt_step cells h k with ⟨h1, _⟩ | ⟨_, _, h3⟩
    · have := hK k (by omega); omega
    · rw [h3, ih, List.range_succ, List.map_append]; rfl
theorem read_rest (cells : List Int) (h : cells.length = 10) {K : Nat} (hK : bAt cells K = 10) : ∀ d, bAt cells (K + d) = 10 ∧ readN ⟨(cells.map sgnN).toArray⟩ (K + d) = readN ⟨(cells.map sgnN).toArray⟩ K
  | 0 => ⟨hK, rfl⟩
  | d + 1 => by
    obtain ⟨h1, h2⟩ := read_rest cells h hK d
    rcases bAt_step cells h (K + d) with ⟨_, h4, h5⟩ | ⟨h3, _⟩
    · exact ⟨h4, h5.trans h2⟩
    · omega
/-- the pieces that the table tells -/
noncomputable def dueOf (cells : List Int) : List Str := (List.range (endsOf (cells.map codeN)).length).map fun k => Txt.slice (cat (cells.map sgn)) (some (([0] ++ endsOf (cells.map codeN)).getD k 0)) (some ((endsOf (cells.map codeN)).getD k 0))
/-- the plain law -/
theorem plain_law (cells : List Int) (h : cells.length = 10) : readN (cat (cells.map sgn)) 10 = dueOf cells := by
  have b0 : bAt cells 0 = 0 := rfl
  obtain ⟨K, hK10, he, hbK, hlt⟩ := ends_eq (ns := cells.map codeN) (b := bAt cells) (by rw [List.length_map]; exact h) b0 (fun k => (bAt_cat cells h k).1) (fun k => by
    rcases bAt_step cells h k with ⟨h1, h2, _⟩ | ⟨h1, h2, _⟩
    · exact .inl ⟨h1, h2⟩
    · exact .inr ⟨h1, h2⟩)
  unfold dueOf
  rw [text_eq, he]
  have e10 : readN ⟨(cells.map sgnN).toArray⟩ 10 = (List.range K).map (pieceAt cells) := by
    have := (read_rest cells h hbK (10 - K)).2
    rw [show K + (10 - K) = 10 by omega] at this
    rw [this, read_pieces cells h hlt K (Nat.le_refl _)]
  rw [e10, List.length_map, List.length_range]
  refine List.map_congr_left fun k hk => ?_
  rw [List.mem_range] at hk
  have g1 : ((List.range K).map fun k => (bAt cells (k + 1) : Int)).getD k 0 = (bAt cells (k + 1) : Int) := by
    rw [List.getD_eq_getElem?_getD, List.getElem?_map, List.getElem?_range hk]; rfl
  have g2 : ([0] ++ (List.range K).map fun k => (bAt cells (k + 1) : Int)).getD k 0 = (bAt cells k : Int) := by
    cases k with
    | zero => rw [b0]; rfl
    | succ k =>
      show ((List.range K).map fun k => (bAt cells (k + 1) : Int)).getD k 0 = _
      rw [List.getD_eq_getElem?_getD, List.getElem?_map, List.getElem?_range (by omega)]; rfl
  rw [g1, g2]
  have hm : bAt cells k ≤ bAt cells (k + 1) := by
    rcases bAt_step cells h k with ⟨h1, h2, _⟩ | ⟨_, h2, _⟩
    · omega
    · exact Nat.le_of_lt h2.1
  have hq := (bAt_cat cells h (k + 1)).1
  have := beq_iff_eq.mp (slice_closesL (x := ⟨(cells.map sgnN).toArray⟩) (i := (bAt cells k : Int)) (j := (bAt cells (k + 1) : Int)) (by omega) (by omega) (by
    have : (⟨(cells.map sgnN).toArray⟩ : Str).length = 10 := by show (List.toArray _).size = 10; rw [List.size_toArray, List.length_map, h]
    rw [this]; omega))
  rw [this]
  unfold pieceAt
  have e1 : ((bAt cells k : Nat) : Int).toNat = bAt cells k := by omega
  have e2 : (((bAt cells (k + 1) : Nat) : Int) - ((bAt cells k : Nat) : Int)).toNat = bAt cells (k + 1) - bAt cells k := by omega
  rw [e1, e2]
theorem plain_ok (cells : List Int) (h : cells.length = 10) : ∀ p ∈ dueOf cells, PyData.strOk p = true := by
  rw [← plain_law cells h, text_eq]
  have key : ∀ k, ∀ p ∈ readN ⟨(cells.map sgnN).toArray⟩ k, PyData.strOk p = true := by
    intro k
    induction k with
    | zero => intro p hp; cases hp
    | succ k ih =>
      intro p hp
      rcases bAt_step cells h k with ⟨_, _, h3⟩ | ⟨_, _, h3⟩
      · rw [h3] at hp; exact ih p hp
      · rw [h3] at hp
        rcases List.mem_append.mp hp with hp | hp
        · exact ih p hp
        · rw [List.mem_singleton.mp hp]
          unfold PyData.strOk pieceAt
          rw [List.all_toArray, List.all_eq_true]
          intro x hx
          obtain ⟨c, _, rfl⟩ := List.mem_map.mp (List.mem_of_mem_drop (List.mem_of_mem_take hx))
          have := sgnN_lt c
          simp; omega
  exact key 10
theorem plain_star (cells : List Int) : (cells.map sgn).any (· == Str.ofString "*") = decide (2 ∈ cells.map codeN) := star_any cells
end
section
open PySem PySem.W PyProof.Rows
open PySem.Spec PySem.Calls
set_option maxRecDepth 100000
set_option pp.deepTerms false
set_option pp.maxSteps 10000
open LCg LCt
theorem fillL1 : PySem.Challenge.rw_rs0046_01 = PySem.Challenge.rw_rs0046_01 ∧ Mine.hd.heap_39 = Mine.hd.heap_39 := by
  w_top off
  k_fill
  exact ⟨rfl, rfl⟩
theorem ints8 {a b c d e f g h : Int} {s t u v w x y z : Tok} : IntsAre [.int a s, .int b t, .int c u, .int d v, .int e w, .int f x, .int g y, .int h z] [a, b, c, d, e, f, g, h] :=
  .cons _ _ (.cons _ _ (.cons _ _ (.cons _ _ (.cons _ _ (.cons _ _ (.cons _ _ (.cons _ _ .nil)))))))
section
open Lean
def offs : Tac := `(tactic| (try simp only [LCg.Off1, and_true] at o1'))
def linesL : String → Tac
  | "call ref" => oneOf [
    line `cells_k "aaaaarwusss_" [`D', `vs', `n', `h', `tk', `cs', `F', `N', `o1', `hi', `hc', `hb'] (tl := offs),
    line `ends_k "aaaaarwumss_" [`D', `vs', `n', `h', `tk', `F', `N', `o1', `hi'] (tl := offs),
    line `read_k "aaaaarwumm01s_" (sp := [`(tactic| exact ⟨Int.fmod_nonneg_of_pos _ (by decide), Int.le_of_lt (Int.lt_trans (Int.fmod_lt_of_pos _ (by decide)) (by decide))⟩), `(tactic| omega)]) (tl := intr [`DR, `vR, `nR, `sR, `nwR, `smR, `FR, `NR, `mR, `tR, `t1R, `t2R, `kpR]),
    line `applies_none "aaaaarw0s_" [`h', `tk', `F', `N'] (sp := [`(tactic| exact .head _)])]
  | "call builtin:sum" => line `sumK "raa0s_" [`h', `tk', `t', `F', `N'] (sp := [`(tactic| exact News.isList (by k_asm) (by k_mem))])
  | "eval ListComp" => oneOf [do `(tactic| ((with_reducible show wpAny _ _ (eval (Expr.ListComp (Expr.Name _ _) _ _ _) _) _ _ _); $(← hold):tactic)),
    line `ListComp_UH "a01r1r_" (sp := [wua, dcd]) (pre := `(tactic| lcg_look))]
  | "exec Assign cons ListComp" => line `Assign_ListComp_UH "ar001r1rrr_" (sp := [wua, dcd])
  | "subscriptTail" => line `ksa_sub "am0111_2" (sp := [`(tactic| exact ints8), `(tactic| ksa_idx), wua]) (pre := `(tactic| (with_reducible show wpAny _ _ (subscriptTail _ _ (Value.ref _) (Value.int _ _)) _ _ _))) (tl := `(tactic| intro _))
  | "binaryOp Add ref ref" => line `kmk_add_ints "aa001s_2" [`D', `ws', `h', `F', `N', `l1, `hI'] (sp := [`(tactic| exact News.isList (by k_asm) (by k_mem)), `(tactic| exact .cons _ _ .nil), `(tactic| (rw [sizeLine_eq]; simp only [List.length_cons, List.length_nil]; omega))]) (tl := `(tactic| (try k_lt l1)))
  | "compareOp NotEq ref ref" | "compareOp Is" | "compareOp In int ref" | "pyIter str" => hold
  | _ => Macro.throwUnsupported
end
local macro_rules | `(tactic| walk_at $k:str) => linesL k.getString
local macro_rules | `(tactic| k_ne) => pick 9
local macro_rules | `(tactic| k_mem) => `(tactic| first | assumption | exact List.Mem.tail _ (by assumption) | exact List.Mem.tail _ (List.Mem.tail _ (by assumption)) | exact List.Mem.tail _ (List.Mem.tail _ (List.Mem.tail _ (by assumption))) | exact List.Mem.tail _ (List.Mem.tail _ (List.Mem.tail _ (List.Mem.tail _ (by assumption)))))
set_option maxHeartbeats 8000000 in
theorem law_c {w : World} {s : Shared} {Q E : Value → Shared → Prop} {pg : Program} {ls : List Str} {mean : ExcName → Option Value} {mg mb : Str → Option Value} {l : Addr} {vs : List Value} {ns : List Int}
   (hT : TabsAt [(109, 105), (116, 112)] s.heap) (X : (Mine.hd.heap_39 w.params).In s.heap) (T : Top pg ls mean mg mb s.heap)
   (hl : s.heap.IsList l vs.toArray) (hi : IntsAre vs ns) (hn : ns.length ≤ 63)
   (hret : ∀ s' p1 p2, Sm s s' → (∀ b o, b ≠ 105 → b ≠ 112 → s.heap.get? b = some o → s'.heap.get? b = some o) → s'.heap.get? 105 = some (tabObj p1) → s'.heap.get? 112 = some (tabObj p2) → Q (.bool true) s') :
   wpAny (model PySem.Challenge.pw_rs0046_01 w) callerA (call (.ref 174) [.ref l]) Q E s := by
  refine wpAny_call ?_
  have hlg := ghost_list hT hl
  k_dflt (refine' enter_top hT X ?kN T ?k6 ?k7 ?kB ?kk ?kD ?_ ?c2 ?c3 ?c4; (case kN => kernel_rfl); (case k6 => k_is); (case k7 => k_is); (case kB => exact BindsTo.of_eq rfl); (case kk => exact rfl); (case kD => decide +kernel); (case c2 => exact rfl); (case c3 => exact rfl); (case c4 => exact rfl))
  clear X T
  intro L' h' tk' cells' F' N' Y' B' X' T' hlt
  have a105 : @LT.lt Nat _ 105 L' := hlt (105, tabObj #[]) (.head _)
  have a112 : @LT.lt Nat _ 112 L' := hlt (112, tabObj #[]) (.tail _ (.head _))
  clear hlt
  have hgk : ∀ b o, b ≠ 105 → b ≠ 112 → s.heap.get? b = some o → (ghostOf s.heap [(109, 105), (116, 112)]).get? b = some o := fun b o n1 n2 e => ghost_ne e (by simp [n1, n2])
  generalize ghostOf s.heap [(109, 105), (116, 112)] = h₀ at *
  k_cells Y'
  (try simp only [List.cons_append, List.nil_append, tabNews, List.map_cons, List.map_nil] at N'); (try dsimp only); (try k_lift B'); (try k_fold)
  rename_i ob oe ot db de dt
  have F' : Fr h₀ L' h' (fun y => if y = Str.ofString "script" then some (.ref l) else none) := F'
  have dt : ot.data = .cell none := dt
  have de : oe.data = .cell none := de
  have db : ob.data = .cell none := db
  k_steps
  rename Fr _ _ _ _ => F1
  rename News _ _ _ _ => N1
  rename_i dc vc nc h1c tk1c cells hic hcl hcb o1 h1
  unfold Hold
  refine CompSrc.ledger (news := [(dc, listOf vc.toArray nc), (L' + 1 + 1 + 1, ob), (L' + 1 + 1, oe), (L' + 1, ot), (105, tabObj #[]), (112, tabObj #[])]) (k := nc) rfl F1 N1 (.head _) (by rw [sizeLine_eq, List.size_toArray, hic.length]; omega) ?_
  intro g2
  refine rest_indU (fun k ys => StrsAre ys ((cells.take k).map sgn)) ?step1 ?fin1 .nil
  case step1 =>
    rintro k ys hk hys v I oI C oC D6 m6 h6 tk6 E6 hv hNs hm6 F6 N6 off6 ne6
    clear F1 N1
    obtain ⟨tv, rfl, hv2⟩ := ints_item hic (by simpa using hv)
    k_steps
    refine CompEnd.intro (by assumption) (by assumption) _ (fun p hp => hp) off6 (.inr ⟨_, .head _, rfl, _, rfl⟩) ⟨rfl, ?_⟩
    rw [List.take_add_one, hv2, List.map_append]
    exact hys.append' (.cons _ _ .nil)
  case fin1 =>
    rintro ys hys D6 h6 tk6 F6 N6 off6
    clear F1 N1
    rw [List.take_of_length_le (by rw [List.size_toArray, hic.length]; exact Nat.le_refl _)] at hys
    simp only [LCg.Off1, and_true] at off6
    k_steps
    rename Fr _ _ _ _ => F7
    rename News _ _ _ _ => N7
    refine join_list (N7.isList (.head _)) (by simpa using hys) (by rw [sum_sgn, List.length_map]; show _ + _ * 0 ≤ _; omega) fun t7 k7 => ?_
    rw [join_cat]
    have hXl := (text_len cells).trans hcl
    have hXa := text_asc cells
    generalize hX : cat (cells.map sgn) = txt at *
    clear hlg lifted
    k_steps
    rename Fr _ _ _ _ => F8
    rename News _ _ _ _ => N8
    rename _ = Data.cell (some (Value.str _ _)) => dt8
    clear dt
    rename_i h8 ot8
    unfold Hold
    refine CompSrc.ledger (news := [(D6, lst ys), (dc, listOf vc.toArray nc), (L' + 1 + 1 + 1, ob), (L' + 1 + 1, oe), (L' + 1, ot8), (105, tabObj #[]), (112, tabObj #[])]) (k := nc) rfl F8 N8 (.tail _ (.head _)) (by rw [sizeLine_eq, List.size_toArray, hic.length]; omega) ?_
    intro g9
    refine rest_indU (fun k zs => IntsAre zs ((cells.take k).map codeN)) ?step2 ?fin2 .nil
    case step2 =>
      rintro k zs hk hzs v I oI C oC D9 m9 h9 tk9 E9 hv hNs hm9 F9 N9 off9 ne9
      clear F8 N8
      obtain ⟨tv, rfl, hv2⟩ := ints_item hic (by simpa using hv)
      k_steps
      refine CompEnd.intro (by assumption) (by assumption) _ (fun p hp => .tail _ hp) off9 (.inr ⟨_, .tail _ (.head _), rfl, _, rfl⟩) ⟨rfl, ?_⟩
      rw [List.take_add_one, hv2, List.map_append]
      exact hzs.append (.cons _ _ .nil)
    case fin2 =>
      rintro zs hzs D9 h9 tk9 F9 N9 off9
      clear F8 N8
      rw [List.take_of_length_le (by rw [List.size_toArray, hic.length]; exact Nat.le_refl _)] at hzs
      have hcod : (cells.map codeN).length = 10 := by rw [List.length_map]; exact hcl
      have hel := endsOf_len (cells.map codeN)
      simp only [LCg.Off1, and_true] at off9
      k_steps
      rename Fr _ _ _ _ => F1x
      rename News _ _ _ _ => N1x
      rename IsRange _ _ _ _ _ _ _ _ => hr1x
      rename_i De ve ne hA1 tA1 hie oA1 hA2 oe2 de2 tA2 dz hA3 lA3 Db vb hA4 hib lA4 hA5 ob2 FA NA db2 hA6 tA6 t1 u1 v1 kA
      have hne1 : Builtin.Range.rangeSize 0 ((endsOf (cells.map codeN)).length : Int) 1 = ((endsOf (cells.map codeN)).length : Nat) := by rw [rangeSize_nat]; omega
      unfold Hold
      refine CompSrc.range (n := (endsOf (cells.map codeN)).length) rfl F1x N1x hr1x (small_one (by omega) (by omega) (by omega) (by omega)) hne1 (by rw [sizeLine_eq]; omega) ?_
      intro g10
      refine rest_indG (fun i us nw' => (∀ p ∈ [(Db, listOf vb.toArray 0), (dz, listOf #[Value.int 0 tA2] 0), (De, listOf ve.toArray ne), (D9, lst zs), (D6, lst ys), (dc, listOf vc.toArray nc), (L' + 1 + 1 + 1, ob2), (L' + 1 + 1, oe2), (L' + 1, ot8), (105, tabObj #[]), (112, tabObj #[])], p ∈ nw') ∧ TupsAre nw' us ((List.range i).map fun k => Txt.slice txt (some (([0] ++ endsOf (cells.map codeN)).getD k 0)) (some ((endsOf (cells.map codeN)).getD k 0)))) ?step3 ?fin3 ?h03
      case h03 => exact ⟨fun p hp => hp, rfl, fun _ => 0, fun _ => 0, fun _ => 0, fun j hj => absurd hj (Nat.not_lt_zero _)⟩
      case step3 =>
        rintro i us nw' hk ⟨hsub, htup⟩ v I oI C oC D10 m10 h10 tk10 E10 ⟨tv, rfl⟩ hNs hm10 F10 N10 off10 ne10
        have mT := hsub (L' + 1, ot8) (by simp)
        have mE := hsub (L' + 1 + 1, oe2) (by simp)
        have mB := hsub (L' + 1 + 1 + 1, ob2) (by simp)
        have mDe := hsub (De, listOf ve.toArray ne) (by simp)
        have mDb := hsub (Db, listOf vb.toArray 0) (by simp)
        clear F1x N1x
        have hbl : ([0] ++ endsOf (cells.map codeN)).length = (endsOf (cells.map codeN)).length + 1 := by simp
        k_steps
        rename (_ < _) ∧ _ => l12
        have ek : ((0 : Int) + (i : Int)).toNat = i := by omega
        rw [List.range_succ, List.map_append, List.map_cons, List.map_nil]
        simp only [ek] at *
        exact due_close (by assumption) (by assumption) l12 off10 hsub htup
      case fin3 =>
        rintro us nw' ⟨hsub, htup⟩ D11 h11 tk11 F11 N11 off11
        clear F1x N1x
        have mT := hsub (L' + 1, ot8) (by simp)
        have mC := hsub (dc, listOf vc.toArray nc) (by simp)
        have m105 := hsub (105, tabObj #[]) (by simp)
        have m112 := hsub (112, tabObj #[]) (by simp)
        k_steps
        unfold Hold
        have e10 : txt.cps.size = 10 := hXl
        rw [e10] at tR
        have hPL : readN txt 10 = _ := hX ▸ plain_law cells hcl
        rw [hPL] at tR
        have n105 : @Ne Nat D11 105 := (off1_mem off11 _ m105).symm
        have n112 : @Ne Nat D11 112 := (off1_mem off11 _ m112).symm
        have htR : TupsAre nwR us _ := htup.kept (fun p hp => N11 p (.tail _ hp)) m105 m112 fun p hp => kpR p (.tail _ hp)
        refine ne_pairs NR mR (kpR _ (.head _) n105 n112) tR (by unfold dueOf; rw [hX]; exact htR) (plain_ok cells hcl) (by ktr_units) ?_
        obtain ⟨p1, hp1, _⟩ := t1R
        obtain ⟨p2, hp2, _⟩ := t2R
        have kD9 : (D9, lst zs) ∈ nwR := kpR _ (.tail _ (hsub _ (by simp))) (by k_ne) (by k_ne)
        have kT : (L' + 1, ot8) ∈ nwR := kpR _ (.tail _ mT) (by k_ne) (by k_ne)
        have NR2 : News h₀ L' sR.heap [(105, tabObj p1), (112, tabObj p2), (D9, lst zs), (L' + 1, ot8)] := by
          intro p hp
          simp only [List.mem_cons, List.not_mem_nil, or_false] at hp
          rcases hp with rfl | rfl | rfl | rfl
          · exact NR _ hp1
          · exact NR _ hp2
          · exact NR _ kD9
          · exact NR _ kT
        clear NR N11 F11 mR tR htR hp1 hp2 kD9 kT mT mC m105 m112 hsub htup kpR
        (try clear F' N')
        k_steps
        unfold Hold
        refine wpAny_ListComp_walk (fun _ => true) (fun v y => v = y) (by decide) (by decide) rfl (by decide) (by decide) ?_
        k_steps
        unfold Hold
        rename Fr _ _ _ _ => F20
        rename News _ _ _ _ => N20
        refine wpAny_pyIter_ascii hXa ?_
        refine ⟨_, [_], [_], txt.cps.size, _, _, rfl, Walks.strAscii rfl _ txt _, (by rw [sizeLine_eq, e10]; omega), ⟨_, Heap.get?_push_size _ rfl, rfl, rfl⟩, ?_, ⟨?_, ?_⟩, ?_⟩
        · intro b hb
          rw [List.mem_singleton.mp hb]
          show _ < (Heap.push _ _).objs.size
          rw [Heap.size_push]
          exact Nat.lt_succ_self _
        · intro C i v s₃ m₃ E' _ _ _ _ _
          exact wpAny_pure ⟨rfl, ⟨_, _, rfl, fun _ _ e => e⟩⟩
        · intro C i v s₃ m₃ E' _ _ hn hm _ _
          exact wpAny_Name (wpAny_loadName_local rfl rfl hn hm ⟨rfl, ⟨_, _, rfl, fun _ _ e => e⟩⟩) (by decide)
        · intro D21 h21 tk21 ys21 vs21 hD21 hl21 hpl21 hlen21 hP21 hF21 hk21
          have e21 := paired_eq hF21
          rw [List.filter_eq_self.mpr (fun _ _ => rfl)] at e21
          have e22 : ys21 = vs21.toArray := by rw [e21]
          subst e22
          obtain ⟨n21, hn21⟩ := hpl21
          have s21 : StrsAre vs21 (cells.map sgn) := by
            have := signs_are (vs := vs21) (cs := cells.map sgnN) (by rw [hlen21, List.length_map, hcl]; exact hXl) (fun j v hj => by
              obtain ⟨c, u, g1, g2⟩ := hP21 j v hj
              refine ⟨c, u, ?_, g2⟩
              rw [← hX, text_eq] at g1
              simpa using g1)
            rw [List.map_map] at this
            have e23 : cells.map sgn = cells.map (sg ∘ sgnN) := List.map_congr_left fun c _ => sgn_eq c
            rw [e23]
            exact this
          obtain ⟨F22, N22, o22⟩ := grown_add F20 N20 (fun b o e => hk21 b o (fun hb => absurd (Heap.lt_size e) (by rw [List.mem_singleton.mp hb]; exact Nat.lt_irrefl _)) (Heap.get?_push_of_some _ e))
            (by
              cases e : Heap.get? _ D21 with
              | none => rfl
              | some o => rw [show _ = some o from Heap.get?_push_of_some _ e] at hD21; cases hD21) hn21
          clear F20 N20
          simp only [LCg.Off1, and_true] at o22
          k_steps
          unfold Hold
          rename News _ _ _ _ => N23
          refine in_list_ints (ns := cells.map codeN) (News.isList N23 (.tail _ (.tail _ (.tail _ (.head _))))) hzs ?_
          (try dsimp only)
          rename Fr _ _ _ _ => F23
          refine wpAny_is_plain rfl ?_
          have est : ((cells.map sgn).any fun x => x == Str.ofString "*") = ((cells.map codeN).any fun x => x == 2) := by
            rw [plain_star cells, Bool.eq_iff_iff, decide_eq_true_eq, List.any_eq_true]
            exact ⟨fun h => ⟨2, h, by decide⟩, fun ⟨x, hx, e⟩ => (beq_iff_eq.mp e) ▸ hx⟩
          rw [est]
          have eb : ∀ b : Bool, (Value.bool b == Value.bool b) = true := by intro b; cases b <;> rfl
          rw [eb]
          exact hret _ p1 p2 (Sm.trans Sm.same (Sm.trans smR Sm.same)) (fun b o n1 n2 e => F23.keep _ _ (hgk b o n1 n2 e)) (N23 _ (.tail _ (.head _))).1 (N23 _ (.tail _ (.tail _ (.head _)))).1
end
section
open PySem PySem.W PyProof.Rows
open PySem.Spec PySem.Calls
set_option maxRecDepth 100000
set_option pp.deepTerms false
set_option pp.maxSteps 10000
theorem fillF5 : PySem.Challenge.rw_rs0046_01 = PySem.Challenge.rw_rs0046_01 ∧ Mine.hd.heap_39 = Mine.hd.heap_39 := by
  w_top off
  k_fill
  exact ⟨rfl, rfl⟩
/-- what is old is as it was, but for the two tables, which have grown -/
theorem old_of {h h' : Heap} {p1 p2 : Array Value} (hT : TabsAt [(109, 105), (116, 112)] h) (keep : ∀ b o, b ≠ 105 → b ≠ 112 → h.get? b = some o → h'.get? b = some o) (h1 : h'.get? 105 = some (tabObj p1)) (h2 : h'.get? 112 = some (tabObj p2)) : OldK h h' := by
  have t1 := hT (109, 105) (.head _)
  have t2 := hT (116, 112) (.tail _ (.head _))
  refine ⟨fun b o e => ?_, fun b o e => ?_⟩
  · by_cases e1 : b = 105
    · subst e1
      have := Option.some.inj (e.symm.trans t1.2)
      subst this
      exact .inr (.inl ⟨(t1.1.tab t1.2).isCodeTable, rfl, #[], p1, rfl, by rw [Array.empty_append]; exact h1⟩)
    · by_cases e2 : b = 112
      · subst e2
        have := Option.some.inj (e.symm.trans t2.2)
        subst this
        exact .inr (.inl ⟨(t2.1.tab t2.2).isCodeTable, rfl, #[], p2, rfl, by rw [Array.empty_append]; exact h2⟩)
      · exact .inl (keep b o e1 e2 e)
  · by_cases e1 : b = 105
    · exact ⟨_, e1 ▸ h1⟩
    · by_cases e2 : b = 112
      · exact ⟨_, e2 ▸ h2⟩
      · exact ⟨o, keep b o e1 e2 e⟩
theorem codeHd_of {K : Frag} {h : Heap} {c P : Addr} (X : K.In h) (e : codeTab K c P = true) (hP : h.get? P = some (tabObj #[])) : CodeHd h c P := by
  have ht : TriplesOk (#[] : Array Value).toList := by first | exact .nil | trivial | simp [TriplesOk]
  obtain ⟨h1, h2⟩ := code_of X e hP ht
  exact CodeHd.of h1 h2
theorem x_is : Str.ofString "x" = ⟨#[120]⟩ := by decide +kernel
/-- `K`, beside a proof: a text that stands in the type of a proof keeps the library's quick form of a definition away, which nobody would read here -/
def beside {p : Prop} (h : p) (K : Frag) : Frag := K
/-- the written part, and the two tables, in one text -/
noncomputable def K2 : Params → Frag := by
  refine' (?F : (K : Params → Frag) → (K = fun P => Mine.hd.heap_39 P ++ [(105, tabObj #[]), (112, tabObj #[])]) → (Params → Frag)) _ ?h
  case h =>
    delta Mine.hd.heap_39
    exact rfl
  case F => exact fun K _ P => beside x_is (K P)
theorem K2_is (P : Params) : K2 P = Mine.hd.heap_39 P ++ [(105, tabObj #[]), (112, tabObj #[])] := by kernel_rfl
theorem lookup_app {a : Addr} {o : Obj} : ∀ {K K' : Frag}, K.lookup a = some o → (K ++ K').lookup a = some o
  | (b, x) :: r, K', h => by
    rw [List.cons_append, List.lookup_cons]
    rw [List.lookup_cons] at h
    cases hb : a == b with
    | true => rw [hb] at h; exact h
    | false => rw [hb] at h; exact lookup_app h
theorem k2_sub {P : Params} {h : Heap} (X : (K2 P).In h) : (Mine.hd.heap_39 P).In h := fun a o e => X a o ((congrArg (List.lookup a) (K2_is P)).trans (lookup_app e))
end
end Mine
open PySem PySem.W PyProof.Rows
set_option maxRecDepth 100000 in
set_option maxHeartbeats 8000000 in
theorem PySem.Challenge.cw_rs0046_01_holds : PySem.Challenge.rw_rs0046_01.Holds := by
  refine Mine.hd ?_
  w_on
  o_head (kHook Mine.K2 [2, 3, 15, 17, 18, 20, 21, 29, 31, 32, 34, 35, 36, 38, 39, 41, 42, 43, 45, 46, 48, 49, 50, 52, 53, 55, 56, 57, 58, 59, 60, 61, 64, 67, 72, 73, 74, 76, 77, 79, 80, 81, 83, 84, 86, 87, 88, 89, 91, 92, 94, 95, 96, 97, 99, 100, 102, 103, 104, 106, 107, 109, 110, 111, 113, 114, 116, 117, 118, 119, 121, 122, 124, 125, 126, 128, 129, 131, 132, 133, 134, 136, 137, 139, 140, 141, 142, 143, 144, 145, 148, 151, 152, 153, 155, 156, 158, 159, 160, 163, 164, 165, 168, 169, 170, 173, 174, 105, 112] (fun _ => by kernel_rfl))
  (case hw => w_witness2)
  intro w s₀ s₁ mg mb G Y fa o pm cd doc dV kV ho hd hcd hD hmg hg args vals as hpre hlay hrd hwl hlo
  have KY : (Mine.K2 w.params).In s₁.heap := kIn_of Y
  have KX : (Mine.hd.heap_39 w.params).In s₁.heap := Mine.k2_sub KY
  refine Ground.open G ?_
  intro T B D TE TW
  have hP1 : s₁.heap.get? 105 = some (Mine.tabObj #[]) := KY _ _ (by kernel_rfl)
  have hP2 : s₁.heap.get? 112 = some (Mine.tabObj #[]) := KY _ _ (by kernel_rfl)
  have hT : TabsAt [(109, 105), (116, 112)] s₁.heap := by
    intro q hq
    rcases List.mem_cons.mp hq with rfl | hq
    · exact ⟨Mine.codeHd_of KX (by kernel_rfl) hP1, hP1⟩
    · rcases List.mem_cons.mp hq with rfl | hq
      · exact ⟨Mine.codeHd_of KX (by kernel_rfl) hP2, hP2⟩
      · cases hq
  have hfa : fa = 174 := by
    have h1 := mg_of (n := Str.ofString "law") (v := .ref 174) KX T.g (by k_is)
    rw [hmg] at h1
    cases h1
    rfl
  subst hfa
  wrow_args hpre hlay hrd hwl hlo
  refine Mine.law_c hT KX T (by assumption) (by assumption) (by omega) fun s' p1 p2 hsm hkeep h105 h112 => ?_
  refine ⟨.inl ⟨.bool true, .bool true, [], rfl, raisesW_false (by wrow_none_raised), .bool true, ?_, fun _ => ⟨List.nodup_nil, fun _ h => nomatch h⟩⟩, Mine.old_of hT hkeep h105 h112, hsm.os, hsm.bare (AllBare.of_eq hg)⟩
  wrow_post
