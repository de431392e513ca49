import PyProof.Rows.All
import Wide.All
import OpenK.AllK
import Wide.FinOn
import PySem.Challenge.RW_ty0019_01
open PySem PySem.W PyProof.Rows PySem.Calls
set_option Elab.async false
set_option maxRecDepth 100000
set_option maxHeartbeats 8000000
set_option linter.unusedVariables false
set_option linter.unusedSimpArgs false
set_option pp.deepTerms false
set_option pp.deepTerms.threshold 6
set_option pp.maxSteps 3000
namespace Mine
--needs
open_top hd for PySem.Challenge.rw_ty0019_01

section
local macro_rules | `(tactic| walk_at "m size") => `(tactic| ((try simp only [Array.size_push, Array.size_append, Array.size_replicate, Int.toNat_natCast, List.size_toArray, List.length_cons, List.length_nil, List.length_append]); omega))
local macro_rules | `(tactic| size_fits) => `(tactic| ((try simp only [PySem.sizeLine_eq, Array.size_push, Array.size_append, Array.size_replicate, List.size_toArray, List.length_cons, List.length_nil, List.length_append]); omega))

/-- a mark at which the walk stands still -/
def Hold (P : Prop) : Prop := P
/-- the same, of a tree -/
def hold {α : Type} (t : Sem α) : Sem α := t
theorem hold_out {α : Type} {M : Model} {A : Around} {t : Sem α} {Q : α → Shared → Prop} {E : Value → Shared → Prop} {s : Shared} (h : wpAny M A (hold t) Q E s) : wpAny M A t Q E s := h
theorem hold_intro {α : Type} {M : Model} {A : Around} {t : Sem α} {Q : α → Shared → Prop} {E : Value → Shared → Prop} {s : Shared} (h : wpAny M A t Q E s) : wpAny M A (hold t) Q E s := h
theorem Hold.out {P : Prop} (h : Hold P) : P := h
theorem Hold.intro {P : Prop} (h : P) : Hold P := h

/-- all that stood stands as it stood -/
abbrev Keeps (h h' : Heap) : Prop := ∀ b o, h.get? b = some o → h'.get? b = some o


/-- the frames around: nothing handled, so deep, so many C units -/
abbrev Ar (dp un : Nat) (fr : Option (List Env)) (gd : Option (List Code)) : Around := { handled := none, depth := dp, frames := fr, guards := gd, units := un }

section
variable {prog : Program} {w : World} {A : Around} {s : Shared} {R : Result → Shared → Prop} {name qual : Str} {params : Arguments} {body : List Stmt} {scope : Scope} {cl : List (Str × Addr)} {dV kV doc pm cdv ct oc : Value} {an od : Option Addr} {osl : Array (Option Value)} {f : Addr} {args : Args} {binds : List (Str × Value)}
  {p : Program} {loose : List Str} {mean : ExcName → Option Value} {mg mb : Str → Option Value}

/-- a plain def of the top, entered: the base is the whole heap less what `hid` names -/
theorem enter_plain (hid : List Addr) (X : (hd.heap_39 w.params).In s.heap) (T : Top p loose mean mg mb s.heap)
    (ho : (hd.heap_39 w.params).lookup f = some ⟨oc, od, .func (fnX name qual params body scope cl dV kV doc pm an cdv ct), osl⟩)
    (hcd : codeIn (hd.heap_39 w.params) cdv qual = true) (hroom : A.depth < recursionLimit)
    (hbind : BindsTo s (fnX name qual params body scope cl dV kV doc pm an cdv ct) args binds) (hloc : ∀ y ∈ binds, scope.names.lookup y.1 = some .local)
    (h : ∀ L' h₁, Fr (hideAll s.heap hid) L' h₁ (fun y => binds.reverse.lookup y) → Keeps s.heap h₁ → L' = s.heap.objs.size →
      wpAny (model prog w) (A.deeper (envX qual scope L' f cdv cl)) (execs body (envX qual scope L' f cdv cl))
        (fun fl s' => R (.ok (.ret (match fl with | .ret v => v | _ => .none))) s')
        (fun e s' => wpAny (model prog w) (A.deeper (envX qual scope L' f cdv cl)) (leaving (envX qual scope L' f cdv cl) e) (fun _ s'' => R (.error e) s'') (fun e' s'' => R (.error e') s'') s')
        { s with heap := h₁, toks := s.toks + binds.length })
    (hcell : ∀ x ∈ scope.names, x.2 ≠ .cell) (hco : scope.isCoroutine = false := by rfl) (hgen : scope.isGenerator = false := by rfl) (hk : scope.kind = .function := by rfl) :
    codeAny (model prog w) A (.call (.ref f) args) R s := by
  refine codeAny_call_def (fd := fnX name qual params body scope cl dV kV doc pm an cdv ct) (body := body) (binds := binds) hroom (X _ _ ho) rfl T.nolimit (codeRec_of X hcd) rfl hbind hcell hloc (fun h₁ hns hk₁ => ?_) hco hgen hk
  exact h s.heap.objs.size h₁ ⟨hns, fun b o e => hk₁ b o (of_hideAll _ e), Nat.le_of_eq (hideAll_size _ _)⟩ hk₁ rfl
end

section
variable {prog : Program} {w : World} {A : Around} {E : Value → Shared → Prop} {s : Shared} {h₀ h : Heap} {L D b : Addr} {m : Str → Option Value} {news news' : List (Addr × Obj)} {its its2 : Array Value} {n n2 : Nat}
/-- extend by a list that is not empty -/
theorem m_extend {Q : Value → Shared → Prop} (F : Fr h₀ L s.heap m) (N : News h₀ L s.heap news) (hb : (b, listOf its2 n2) ∈ news) (hne : 0 < its2.size)
    (U : Upd D (listOf its n) (listOf (its ++ its2) (n + 1)) news news') (hz : its.size + its2.size ≤ 1000000)
    (h : ∀ h', Fr h₀ L h' m → News h₀ L h' news' → Q .none { s with heap := h' }) : wpAny (model prog w) A (call (.builtin "list.extend") [.ref D, .ref b]) Q E s := by
  refine kl_extend (its := its) (n := n) (l := its.toList ++ its2.toList) F N hb rfl (by simpa using Nat.ne_of_gt hne) (by have e : (its.toList ++ its2.toList).toArray = its ++ its2 := (by simp); rw [e]; exact U) ?_ ?_ ?_ h
  · have : Builtin.List.listTooLong (its.size + its2.size) = false := by
      unfold Builtin.List.listTooLong
      rw [sizeLine_eq]
      exact decide_eq_false (by omega)
    rw [this]
    simp
  · rw [sizeLine_eq, Array.length_toList]; omega
  · rw [sizeLine_eq]; omega
/-- a list of one item, so many times -/
theorem m_mul1 {l : Addr} {v : Value} {x : Int} {u : Tok} {Q : Value → Shared → Prop} (F : Fr h₀ L s.heap m) (N : News h₀ L s.heap news) (hm : (l, listOf #[v] n) ∈ news) (h0 : 0 ≤ x) (hx : x ≤ 100000)
    (h : ∀ l' h', Fr h₀ L h' m → News h₀ L h' ((l', listOf (Array.replicate x.toNat v) 0) :: news) → (∀ p ∈ news, p.1 < l') → Q (.ref l') { s with heap := h' }) : wpAny (model prog w) A (binaryOp .Mult (.ref l) (.int x u)) Q E s := by
  refine PyProof.Rows.mul_list F N (N _ hm).1 (by omega) (by omega) (by simp; omega) fun h' F' N' => ?_
  refine h _ h' F' ?_ fun p hp => Heap.lt_size (N p hp).1
  have e : ∀ (k : Nat) (a : Array Value), List.foldl (fun x1 x2 => x1 ++ x2) a (List.replicate k #[v]) = a ++ Array.replicate k v := by
    intro k
    induction k with
    | zero => intro a; simp
    | succ k ih =>
      intro a
      rw [List.replicate_succ, List.foldl_cons, ih]
      apply Array.toList_inj.mp
      simp [List.replicate_succ]
  have e2 : List.foldl (fun x1 x2 => x1 ++ x2) #[] (List.replicate (if (#[v] : Array Value).isEmpty = true then 0 else x.toNat) #[v]) = Array.replicate x.toNat v := by
    rw [if_neg (by simp), e]
    simp
  rw [e2] at N'
  exact N'
theorem m_len {b : Addr} {Q : Value → Shared → Prop} (N : News h₀ L s.heap news) (hb : (b, listOf its n) ∈ news) (hz : its.size ≤ 1000000) (h : ∀ t tk, Q (.int its.size t) { s with toks := tk }) : wpAny (model prog w) A (call (.builtin "len") [.ref b]) Q E s :=
  len_list (N.isList hb) (by omega) (h _ _)
/-- reverse, any items -/
theorem m_reverse {Q : Value → Shared → Prop} (F : Fr h₀ L s.heap m) (N : News h₀ L s.heap news) (U : Upd D (listOf its n) (listOf its.reverse n) news news') (hz : its.size ≤ 1000000)
    (h : ∀ h', Fr h₀ L h' m → News h₀ L h' news' → Q .none { s with heap := h' }) : wpAny (model prog w) A (call (.builtin "list.reverse") [.ref D]) Q E s := by
  refine kl_reverse (its := its) (n := n) (l := its.toList.reverse) F N rfl (by have e : its.toList.reverse.toArray = its.reverse := (by apply Array.toList_inj.mp; simp); rw [e]; exact U) ?_ h
  rw [sizeLine_eq, Array.length_toList]; omega
end

theorem frame3 {m : Str → Option Value} {a b c : Str} {v1 v2 v3 : Option Value} (h1 : m a = v1) (h2 : m b = v2) (h3 : m c = v3) :
    ∃ u : Str → Option Value, m = fun y => if y = a then v1 else if y = b then v2 else if y = c then v3 else u y := by
  refine ⟨m, funext fun y => ?_⟩
  by_cases e1 : y = a
  · rw [if_pos e1, e1, h1]
  · rw [if_neg e1]
    by_cases e2 : y = b
    · rw [if_pos e2, e2, h2]
    · rw [if_neg e2]
      by_cases e3 : y = c
      · rw [if_pos e3, e3, h3]
      · rw [if_neg e3]
theorem frame2 {m : Str → Option Value} {a b : Str} {v1 v2 : Option Value} (h1 : m a = v1) (h2 : m b = v2) :
    ∃ u : Str → Option Value, m = fun y => if y = a then v1 else if y = b then v2 else u y := by
  refine ⟨m, funext fun y => ?_⟩
  by_cases e1 : y = a
  · rw [if_pos e1, e1, h1]
  · rw [if_neg e1]
    by_cases e2 : y = b
    · rw [if_pos e2, e2, h2]
    · rw [if_neg e2]
theorem frame1 {m : Str → Option Value} {a : Str} {v1 : Option Value} (h1 : m a = v1) :
    ∃ u : Str → Option Value, m = fun y => if y = a then v1 else u y := by
  refine ⟨m, funext fun y => ?_⟩
  by_cases e1 : y = a
  · rw [if_pos e1, e1, h1]
  · rw [if_neg e1]
/-- a fresh list of ints, all else kept -/
structure NewList (h h' : Heap) (l : Addr) (ns : List Int) : Prop where
  keep : Keeps h h'
  fresh : h.get? l = none
  list : ∃ A n, h'.get? l = some (listOf A n) ∧ IntsAre A.toList ns
theorem NewList.of {h h' : Heap} {L l : Addr} {A : Array Value} {n : Nat} {ns : List Int} {m : Str → Option Value} {news : List (Addr × Obj)} (F : Fr h L h' m) (N : News h L h' news) (hm : (l, listOf A n) ∈ news) (hI : IntsAre A.toList ns) : NewList h h' l ns :=
  ⟨F.keep, (N _ hm).2.2, A, n, (N _ hm).1, hI⟩
theorem endN_one {h₀ h' : Heap} {L lt : Addr} {J : (Str → Option Value) → List (Addr × Obj) → Prop} {own news' : List (Addr × Obj)} {s₁ : Shared} {tk : Nat} {m' : Str → Option Value} {o o' : Obj}
    (F : Fr h₀ L h' m') (N : News h₀ L h' news') (hm : (lt, o') ∈ news') (ho : ∀ p ∈ own, p ∈ news') (hj : J m' [(lt, o')]) :
    InvEndN h₀ L J own (List.map (fun x => x.1) [(lt, o)]) s₁ { s₁ with heap := h', toks := tk } :=
  InvEndN.intro F N hj rfl (fun p hp => by rw [List.mem_singleton.mp hp]; exact hm) ho
theorem ints_eq {vs : List Value} {xs ys : List Int} (h : IntsAre vs xs) (e : xs = ys) : IntsAre vs ys := e ▸ h
theorem ints_push {its : Array Value} {xs : List Int} {n : Int} {t : Tok} (hI : IntsAre its.toList xs) : IntsAre (its.push (.int n t)).toList (xs ++ [n]) := by
  rw [Array.toList_push]
  exact hI.append (.cons n t .nil)
theorem ints_repl (k : Nat) (x : Int) (t : Tok) : IntsAre (Array.replicate k (Value.int x t)).toList (List.replicate k x) := by
  rw [Array.toList_replicate]
  induction k with
  | zero => exact .nil
  | succ k ih => rw [List.replicate_succ, List.replicate_succ]; exact .cons x t ih
theorem ints_append {its jts : Array Value} {xs ys : List Int} (hI : IntsAre its.toList xs) (hJ : IntsAre jts.toList ys) : IntsAre (its ++ jts).toList (xs ++ ys) := by
  rw [Array.toList_append]
  exact hI.append hJ

end
local macro_rules | `(tactic| walk_at "m steps") => `(tactic| repeat' (first | (k_unfold; (try dsimp only)) | walk1 | (dsimp only; walk1)))
local macro_rules | `(tactic| walk_at "m size") => `(tactic| ((try simp only [Array.size_push, Array.size_append, Array.size_replicate, Int.toNat_natCast, List.size_toArray, List.length_cons, List.length_nil, List.length_append]); omega))
local macro_rules | `(tactic| walk_at "m ints") => `(tactic| first | assumption | exact IntsAre.nil | exact ints_repl _ _ _ | (refine' ints_push ?hI; (case hI => walk_at "m ints")) | (refine' ints_append ?hI ?hJ; (case hI => walk_at "m ints"); (case hJ => walk_at "m ints")) | (refine' IntsAre.cons _ _ ?hI; (case hI => walk_at "m ints")))
local macro_rules | `(tactic| size_fits) => `(tactic| ((try simp only [PySem.sizeLine_eq, Array.size_push, Array.size_append, Array.size_replicate, List.size_toArray, List.length_cons, List.length_nil, List.length_append]); omega))
local macro_rules | `(tactic| walk_at "call builtin:list.extend") => `(tactic| (k_here; (with_reducible show wpAny _ _ (call (Value.builtin _) [Value.ref _, Value.ref _]) _ _ _); k_dflt (refine' m_extend ?F ?N ?b ?ne ?U ?z ?_; (case F => k_asm); (case N => k_asm); (case b => k_mem); (case U => k_upd); (case ne => walk_at "m size"); (case z => walk_at "m size")); intro h' F' N'; (try dsimp only [List.nil_append, List.cons_append] at N')))
local macro_rules | `(tactic| walk_at "binaryOp Mult ref int") => `(tactic| (k_here; (with_reducible show wpAny _ _ (binaryOp _ (Value.ref _) (Value.int _ _)) _ _ _); k_dflt (refine' m_mul1 ?F ?N ?b ?lo ?hi ?_; (case F => k_asm); (case N => k_asm); (case b => k_mem); (case lo => omega); (case hi => omega)); intro l' h' F' N' l1; (try k_lt l1)))
local macro_rules | `(tactic| walk_at "binaryOp RShift int int") => `(tactic| k_extra "m rshift")
local macro_rules | `(tactic| walk_at "binaryOp LShift int int") => `(tactic| k_extra "m lshift")
local macro_rules | `(tactic| walk_at "binaryOp BitXor int int") => `(tactic| k_extra "m xor")
local macro_rules | `(tactic| walk_at "binaryOp Mult int int") => `(tactic| k_extra "m mul")
local macro_rules | `(tactic| walk_at "binaryOp FloorDiv int int") => `(tactic| k_extra "m fdiv")
local macro_rules | `(tactic| walk_at "binaryOp BitAnd int int") => `(tactic| k_extra "m and")
local macro_rules | `(tactic| walk_at "binaryOp BitOr int int") => `(tactic| k_extra "m or")
local macro_rules | `(tactic| walk_at "call ref") => `(tactic| k_extra "m call")
local macro_rules | `(tactic| walk_at "pyIter ref") => `(tactic| k_extra "m iter")
local macro_rules | `(tactic| walk_at "binaryOp Pow int int") => `(tactic| k_extra "m pow")
local macro_rules | `(tactic| walk_at "call builtin:len") => `(tactic| (k_here; (with_reducible show wpAny _ _ (call (Value.builtin "len") [Value.ref _]) _ _ _); k_dflt (refine' m_len ?N ?b ?z ?_; (case N => k_asm); (case b => k_mem); (case z => walk_at "m size")); intro t' tk'))

theorem marks_Sent : True := by
  w_on
  w_top off
  k_with_none
  trivial
section
def sentStep (σ : List Int × Bool × Bool) (n : Int) : List Int × Bool × Bool :=
  if σ.2.2 && n == 10 then (σ.1 ++ [10], true, false)
  else
    let told := if σ.2.2 then σ.1 ++ [10] else σ.1
    let first := if σ.2.2 then true else σ.2.1
    let told := if first && n == 46 then told ++ [46] else told
    (if n.fmod 64 == 10 then told ++ [n + 3, 10] else told ++ [n], n.fmod 64 == 10, n.fmod 64 == 13)

def sentSt (ns : List Int) : List Int × Bool × Bool := ns.foldl sentStep ([], true, false)
def sentL (ns : List Int) : List Int := if (sentSt ns).2.2 then (sentSt ns).1 ++ [10] else (sentSt ns).1

theorem sentSt_succ {ns : List Int} {i : Nat} {n : Int} {σ : List Int × Bool × Bool} (hn : ns[i]? = some n) (h : sentSt (ns.take i) = σ) : sentSt (ns.take (i + 1)) = sentStep σ n := by
  unfold sentSt at h ⊢
  rw [List.take_add_one, hn, Option.toList_some, List.foldl_append, h]
  rfl
section
variable {prog : Program} {w : World} {s : Shared} {R : Result → Shared → Prop} {p : Program} {loose : List Str} {mean : ExcName → Option Value} {mg mb : Str → Option Value}

def SentJ (lt : Addr) (ns : List Int) (i : Nat) (m : Str → Option Value) (nx : List (Addr × Obj)) : Prop :=
  ∃ (A : Array Value) (n' : Nat), nx = [(lt, listOf A n')] ∧ IntsAre A.toList (sentSt (ns.take i)).1 ∧ A.size ≤ 4 * i ∧
    m "told" = some (.ref lt) ∧ ∃ f t : Bool, m "first" = some (.bool f) ∧ m "waits" = some (.bool t) ∧ f = (sentSt (ns.take i)).2.1 ∧ t = (sentSt (ns.take i)).2.2

theorem sent_spec {dp un : Nat} {fr : Option (List Env)} {gd : Option (List Code)} {l : Addr} {vs : List Value} {ns : List Int}
    (X : (hd.heap_39 w.params).In s.heap) (T : Top p loose mean mg mb s.heap) (hdp : dp + 5 < recursionLimit) (hun : un + 50 < cLine)
    (hl : s.heap.IsList l vs.toArray) (hi : IntsAre vs ns) (hn : ns.length ≤ 1000)
    (h : ∀ l' h' tk, NewList s.heap h' l' (sentL ns) → R (.ok (.ret (.ref l'))) { s with heap := h', toks := tk }) :
    codeAny (model prog w) (Ar dp un fr gd) (.call (.ref 134) ⟨[.ref l], []⟩) R s := by
  have hfill : PySem.Challenge.rw_ty0019_01 = PySem.Challenge.rw_ty0019_01 := rfl
  revert hfill X
  k_fill
  intro X hfill
  clear hfill
  refine' enter_plain [] X T ?k6 ?k7 ?k8 ?k9 ?kB ?_ ?c5 ?c2 ?c3 ?c4
  (case k6 => k_is)
  (case k7 => k_is)
  (case k8 => show dp < recursionLimit; omega)
  (case k9 => exact BindsTo.of_eq rfl)
  (case c5 => decide)
  (case kB => exact locs rfl)
  (case c2 => exact rfl)
  (case c3 => exact rfl)
  (case c4 => exact rfl)
  intro L' h₁ F hk₁ hL
  try dsimp only
  have N : News s.heap L' h₁ [] := News.nil
  try k_fold
  k_with_none
  k_with "pyIter ref" => (refine hold_out ?_)
  k_with "InvEndN" => (refine Hold.out ?_)
  walk_at "m steps"
  refine hold_intro ?_
  rename_i lt _ _ _ _ _ F0 N0
  refine' iter_invN (SentJ lt ns) ?k1 hl hi F0 N0 ?k2 ?turn ?done
  (case k1 => exact rfl)
  (case k2 => exact ⟨_, _, rfl, .nil, by simp, rfl, _, _, rfl, rfl, rfl, rfl⟩)
  case turn =>
    rintro i n t m₁ nx₁ hh tk own hn _ hoff ⟨A, n', rfl, hA, hsz, h1, first, waits, h2, h3, h4, h5⟩ F₁ N₁
    generalize hσ : sentSt (ns.take i) = σ at hA h4 h5
    obtain ⟨told, _, _⟩ := σ
    dsimp only at hA h4 h5
    subst h4 h5
    obtain ⟨u, rfl⟩ := frame3 h1 h2 h3
    clear h1 h2 h3
    have hi' : i < ns.length := (List.getElem?_eq_some_iff.mp hn).1
    have hsz' : A.size ≤ 3996 := by omega
    dsimp only [List.map_cons, List.map_nil, List.cons_append, List.nil_append] at F₁ N₁ hoff ⊢
    try k_fold
    walk_at "m steps"
    all_goals (
      refine Hold.intro ?_
      refine' endN_one ?kF ?kN ?km ?ko ?kj
      (case kF => assumption)
      (case kN => assumption)
      (case km => k_mem)
      (case ko => intro p hp; k_ownIn)
      (case kj =>
        refine ⟨_, _, rfl, ?e1, ?e2, rfl, _, _, rfl, rfl, ?e4, ?e5⟩
        (case e2 => walk_at "m size")
        all_goals rw [sentSt_succ hn hσ]
        (case e1 =>
          refine' ints_eq ?a1 ?a2
          (case a1 => walk_at "m ints")
          (case a2 => first | (simp [sentStep, *]; done) | (exfalso; simp_all; done)))
        (case e4 => first | (simp [sentStep, *]; done) | (exfalso; simp_all; done))
        (case e5 => first | (simp [sentStep, *]; done) | (exfalso; simp_all; done))))
  case done =>
    rintro m₁ nx₁ hh tk ⟨A, n', rfl, hA, hsz, h1, first, waits, h2, h3, h4, h5⟩ F₁ N₁
    obtain ⟨u, rfl⟩ := frame3 h1 h2 h3
    rw [List.take_length] at hA h4 h5
    generalize hσ : sentSt ns = σ at hA h4 h5
    obtain ⟨told, _, _⟩ := σ
    dsimp only at hA h4 h5
    subst h4 h5
    clear h1 h2 h3
    have hsz' : A.size ≤ 4000 := by omega
    dsimp only
    try k_fold
    walk_at "m steps"
    all_goals (
      refine h _ _ _ (NewList.of (by assumption) (by assumption) (by k_mem) ?_)
      refine' ints_eq ?a1 ?a2
      (case a1 => walk_at "m ints")
      (case a2 => simp [sentL, *]))
end

end
section
theorem slot_sub : Slot "re.Pattern" "sub" "re.Pattern.sub" :=
  .of (owner := "re.Pattern") (n := "sub") (by rw [typeLookup_type, builtinLookup_eq_fast]; kernel_rfl) (by decide +kernel) (by decide +kernel) (by decide +kernel)
    (by first | exact .inl (by decide +kernel) | exact .inr (by decide +kernel)) (by rw [isSubtype_type]; kernel_rfl)
theorem type_sub : typeOf (.builtin "re.Pattern.sub") = pure (.type "method_descriptor") := by show builtinType _ = _; rw [builtinType_eq_fast]; kernel_rfl
theorem entry_sub : entryFor table "re.Pattern.sub" = some Builtin.«re.Pattern.sub» := entryFor_of_tree (by kernel_rfl)
theorem entry_subLoop : entryFor table "re.Pattern.sub.loop" = some Builtin.«re.Pattern.sub.loop» := entryFor_of_tree (by kernel_rfl)
theorem plain_subLoop : plainId "re.Pattern.sub.loop" = true := by decide +kernel
theorem plain_sub : plainId "re.Pattern.sub" = true := by decide +kernel
theorem owner_pat : Manifest.owners.lookup (String.ofList ['n', 'r', 'e', 't', 't', 'a', 'P', '.', 'e', 'r'].reverse) = some Manifest.sig_re_Pattern := by kernel_rfl
theorem args_sub (a b c : Value) : argsOk "re.Pattern.sub" ⟨[a, b, c], []⟩ := by
  unfold argsOk
  rw [signature?_of (id := "re.Pattern.sub") (n := ['b', 'u', 's']) (o := ['n', 'r', 'e', 't', 't', 'a', 'P', '.', 'e', 'r']) (by kernel_rfl) owner_pat]; kernel_rfl
theorem attrs_pat : PlainAttrs "re.Pattern" :=
  ⟨⟨"object.__getattribute__", by rw [typeLookup_type, builtinLookup_eq_fast]; kernel_rfl, by decide +kernel⟩, by rw [typeLookup_type, builtinLookup_eq_fast]; kernel_rfl⟩

end
section
section
open PySem.Sre PySem.Builtin.Re
theorem runFor_done : ∀ (k : Nat) (m : Sre.M), m.outcome.isSome = true → m.runFor k = m
  | 0, _, _ => rfl
  | k + 1, m, h => by unfold Sre.M.runFor; rw [if_pos h]
theorem runFor_add : ∀ (j k : Nat) (m : Sre.M), m.runFor (j + k) = (m.runFor j).runFor k
  | 0, k, m => by rw [Nat.zero_add]; rfl
  | j + 1, k, m => by
    rw [show j + 1 + k = (j + k) + 1 by omega]
    have e : ∀ (n : Nat) (m : Sre.M), m.runFor (n + 1) = if m.outcome.isSome then m else m.step.runFor n := fun _ _ => rfl
    rw [e, e]
    by_cases h : m.outcome.isSome = true
    · rw [if_pos h, if_pos h, runFor_done _ _ h]
    · rw [if_neg h, if_neg h]
      exact runFor_add j k m.step
/-- the engine, begun at m, ends so: found from .. to .., or none -/
def EndsAs (m : Sre.M) (r : Option (Nat × Nat)) : Prop := ∃ k, k ≤ 1000000 ∧ match r with
  | some (a, b) => (m.runFor k).outcome = some .matched ∧ (m.runFor k).start = a ∧ (m.runFor k).handed = b
  | none => (m.runFor k).outcome = some .failed

section
variable {M : Model} {A : Around} {E : Value → Shared → Prop} {s : Shared}
theorem wp_reDrive {Q : Sre.M → Shared → Prop} : ∀ (t k : Nat) (m : Sre.M), k ≤ 4 * (t + 1) → (m.runFor k).outcome.isSome = true → Q (m.runFor k) s → wpAny M A (reDrive (t + 1) m) Q E s := by
  intro t
  induction t with
  | zero =>
    intro k m hk ho hq
    unfold reDrive
    by_cases h : (m.runFor reTurnSteps).outcome.isSome = true
    · simp only [h, if_true]
      refine wpAny_pure ?_
      have e : m.runFor k = m.runFor reTurnSteps := by
        rw [show reTurnSteps = k + (reTurnSteps - k) by unfold reTurnSteps; omega, runFor_add, runFor_done _ _ ho]
      rw [← e]; exact hq
    · exfalso
      apply h
      rw [show reTurnSteps = k + (reTurnSteps - k) by unfold reTurnSteps; omega, runFor_add, runFor_done _ _ ho]
      exact ho
  | succ t ih =>
    intro k m hk ho hq
    unfold reDrive
    by_cases h : (m.runFor reTurnSteps).outcome.isSome = true
    · simp only [h, if_true]
      refine wpAny_pure ?_
      have e : m.runFor k = m.runFor reTurnSteps := by
        rcases Nat.le_total k reTurnSteps with h1 | h1
        · rw [show reTurnSteps = k + (reTurnSteps - k) by omega, runFor_add, runFor_done _ _ ho]
        · rw [show k = reTurnSteps + (k - reTurnSteps) by omega, runFor_add, runFor_done _ _ h]
      rw [← e]; exact hq
    · simp only [h, if_false, Bool.false_eq_true]
      refine wpAny_bind (wpAny_rule ?_)
      have h1 : reTurnSteps < k := by
        rcases Nat.lt_or_ge reTurnSteps k with h1 | h1
        · exact h1
        · exfalso; apply h
          rw [show reTurnSteps = k + (reTurnSteps - k) by omega, runFor_add, runFor_done _ _ ho]
          exact ho
      have e : m.runFor k = (m.runFor reTurnSteps).runFor (k - reTurnSteps) := by
        rw [← runFor_add]; congr 1; omega
      rw [e] at ho hq
      exact ih (k - reTurnSteps) (m.runFor reTurnSteps) (by unfold reTurnSteps at h1 ⊢; omega) ho hq

theorem wp_reRunToEnd {m : Sre.M} {r : Option (Nat × Nat)} {Q : Option Sre.M → Shared → Prop} (h : EndsAs m r)
    (hs : ∀ a b m', r = some (a, b) → m'.start = a → m'.handed = b → Q (some m') s) (hn : r = none → Q none s) : wpAny M A (reRunToEnd m) Q E s := by
  obtain ⟨k, hk, hr⟩ := h
  unfold reRunToEnd
  refine wpAny_bind ?_
  have ho : (m.runFor k).outcome.isSome = true := by
    cases r with
    | none => rw [hr]; rfl
    | some p => obtain ⟨a, b⟩ := p; rw [hr.1]; rfl
  rw [show (2 ^ 64 : Nat) = (2 ^ 64 - 1) + 1 by decide]
  refine wp_reDrive _ k m (by omega) ho ?_
  refine wpAny_bind ?_
  refine wpAny_forIn_list _ (fun _ _ s' => s' = s) _ ?_ ?_ _ _ rfl
  · rintro x rest b s' rfl
    refine wpAny_ite ?_
    split
    · exact wpAny_bind (wpAny_rule (wpAny_pure rfl))
    · exact wpAny_pure rfl
  · rintro b s' rfl
    cases r with
    | none =>
      rw [hr]
      exact wpAny_pure (hn rfl)
    | some p =>
      obtain ⟨a, b⟩ := p
      rw [hr.1]
      exact wpAny_pure (hs a b _ rfl hr.2.1 hr.2.2)
end
end

end
section
section
open PySem.Sre PySem.Builtin.Re
/-- a compiled pattern without groups, over texts -/
structure PatAt (h : Heap) (pat : Addr) (code : Array Nat) : Prop where
  ex : ∃ (ct : Addr) (o oc : Obj) (vs cv : Array Value) (n : Nat), h.get? pat = some o ∧ o.cls = .type "re.Pattern" ∧ o.dict = none ∧ o.data = .fields vs ∧ vs.getD 5 .none = .ref ct ∧ reRawNat (vs.getD 6 .none) = 0 ∧ reRawNat (vs.getD 2 .none) = 0 ∧
    h.get? ct = some oc ∧ oc.data = .seq cv n ∧ (cv.map reRawOf).map (·.toNat) = code
theorem PatAt.keeps {h h' : Heap} {pat : Addr} {code : Array Nat} (x : PatAt h pat code) (k : Keeps h h') : PatAt h' pat code := by
  obtain ⟨ct, o, oc, vs, cv, n, h1, h2, h3, h4, h5, h6, h7, h8, h9, h10⟩ := x.ex
  exact ⟨ct, o, oc, vs, cv, n, k _ _ h1, h2, h3, h4, h5, h6, h7, k _ _ h8, h9, h10⟩
/-- what a substitution by a literal makes of a text: so many finds; from `start`, whether the next may not be empty, what is copied so far -/
inductive SubRel (code text : Array Nat) (repl : List Nat) : Nat → Nat → Bool → Nat → List Nat → Prop
  | stop {start : Nat} {must : Bool} {done : Nat} : EndsAs (forSearch code text 0 start text.size must) none → SubRel code text repl 0 start must done (text.toList.drop done)
  | go {d start : Nat} {must : Bool} {done a b : Nat} {rest : List Nat} : EndsAs (forSearch code text 0 start text.size must) (some (a, b)) → done ≤ a → a ≤ text.size → SubRel code text repl d b (b == a) b rest →
      SubRel code text repl (d + 1) start must done ((text.toList.drop done).take (a - done) ++ repl ++ rest)
def textsOf (P : List (Str × Tok)) : List Nat := (P.map fun p => p.1.cps.toList).flatten
theorem textsOf_snoc (P : List (Str × Tok)) (x : Str) (t : Tok) : textsOf (P ++ [(x, t)]) = textsOf P ++ x.cps.toList := by simp [textsOf]
theorem strValues_snoc (P : List (Str × Tok)) (x : Str) (t : Tok) : strValues (P ++ [(x, t)]) = strValues P ++ [.str x t] := by simp [strValues]
section
variable {M : Model} {A : Around} {E : Value → Shared → Prop} {s : Shared}
theorem wp_target {pat : Addr} {code : Array Nat} {text : Str} {tt : Tok} {Q : ReTarget → Shared → Prop} (P : PatAt s.heap pat code)
    (h : Q ⟨.ref pat, .str text tt, code, text.cps, 0, 0, 0, text.cps.size⟩ s) : wpAny M A (reWholeTarget (.ref pat) (.str text tt)) Q E s := by
  obtain ⟨ct, o, oc, vs, cv, n, h1, h2, h3, h4, h5, h6, h7, h8, h9, h10⟩ := P.ex
  unfold reWholeTarget
  refine wpAny_bind (wpAny_fieldsOf h1 h4 ?_)
  refine wpAny_bind ?_
  unfold reTextOf
  refine wpAny_bind (wpAny_pure ?_)
  refine wpAny_pure ?_
  simp only [h6]
  refine wpAny_bind ?_
  unfold reNoCollectionInside
  refine wpAny_pure ?_
  refine wpAny_bind ?_
  unfold reRawItems
  rw [h5]
  refine wpAny_bind (wpAny_seqItems h8 h9 ?_)
  refine wpAny_pure ?_
  refine wpAny_pure ?_
  rw [h7]
  simp only [Option.getD_some]
  rw [h10]
  exact h
theorem wp_pushPiece {h₀ : Heap} {lp : Addr} {P : List (Str × Tok)} {n : Nat} {x : Str} {t : Tok} {Q : Unit → Shared → Prop} (hk : Keeps h₀ s.heap) (hf : h₀.get? lp = none) (hp : s.heap.get? lp = some (listOf (strValues P).toArray n)) (hz : P.length ≤ 1000000)
    (h : ∀ h' n', Keeps h₀ h' → h'.get? lp = some (listOf (strValues (P ++ [(x, t)])).toArray n') → Q () { s with heap := h' }) : wpAny M A (updateSeq lp (·.push (.str x t))) Q E s := by
  have hl : (strValues P).toArray.size = P.length := by simp [strValues]
  refine wpAny_updateSeq hp rfl ?_ (by rw [hl, sizeLine_eq]; omega) (by rw [Array.size_push, hl, sizeLine_eq]; omega)
  refine h _ (if ((strValues P).toArray.push (.str x t)).size == (strValues P).toArray.size then n else n + 1) (fun b o e => ?_) ?_
  · refine (Heap.get?_update_other _ _ fun q => ?_).trans (hk b o e)
    rw [← q, hf] at e; cases e
  · have e := PySem.IsL.update hp (·.push (.str x t))
    have e2 : (strValues P).toArray.push (.str x t) = (strValues (P ++ [(x, t)])).toArray := by rw [strValues_snoc]; simp
    unfold PySem.IsL at e
    rw [e]
    simp only [e2]
end
section
variable {prog : Program} {w : World} {A : Around} {s : Shared} {R : Result → Shared → Prop}
theorem wp_join {E : Value → Shared → Prop} {lp : Addr} {P : List (Str × Tok)} {n : Nat} {t : Tok} {Q : Value → Shared → Prop} (hp : s.heap.get? lp = some (listOf (strValues P).toArray n)) (hz : (textsOf P).length ≤ 1000000)
    (h : ∀ t' tk', Q (.str ⟨(textsOf P).toArray⟩ t') { s with toks := tk' }) : wpAny (model prog w) A (call (.builtin "str.join") [.str Str.empty t, .ref lp]) Q E s := by
  have hlen : ∀ (P : List (Str × Tok)) (k : Nat), (P.map (·.1)).foldl (fun a x => a + x.length + Str.empty.length) k = k + (textsOf P).length := by
    intro P
    induction P with
    | nil => intro k; rfl
    | cons p r ih =>
      intro k
      rw [List.map_cons, List.foldl_cons, ih]
      simp only [textsOf, List.map_cons, List.flatten_cons, List.length_append, Array.length_toList]
      have e1 : Str.empty.length = 0 := rfl
      have e2 : p.1.length = p.1.cps.size := rfl
      omega
  have hj : ∀ P : List (Str × Tok), (Str.join Str.empty (P.map (·.1))).cps.toList = textsOf P := by
    intro P
    induction P with
    | nil => rfl
    | cons p r ih =>
      cases r with
      | nil => simp [Str.join, textsOf]
      | cons q r' =>
        have e : Str.join Str.empty (((p :: q :: r')).map (·.1)) = p.1 ++ Str.empty ++ Str.join Str.empty ((q :: r').map (·.1)) := rfl
        rw [e, Str.append_empty, Str.cps_append, Array.toList_append, ih]
        simp [textsOf]
  refine call_meets PySem.F.slot_str_join rfl PySem.F.entry_str_join (PySem.F.args_str_join_2 _ _) (meets_str_join_list Str.empty t lp P ?_) ⟨⟨_, hp, rfl, _, rfl⟩, ?_⟩
  · unfold Builtin.Str.tooLong
    rw [List.foldl_toArray', hlen, sizeLine_eq]
    · exact decide_eq_false (by omega)
    · rfl
  · unfold joinMade
    split
    · rename_i p
      have e : (⟨(textsOf [p]).toArray⟩ : Str) = p.1 := by simp [textsOf]
      rw [← e]
      exact h p.2 s.toks
    · have e : Builtin.Str.glued Str.empty (P.map (·.1)) = ⟨(textsOf P).toArray⟩ := by
        rw [PySem.StrLaws.glued_eq_join]
        have := hj P
        rw [← this]
      rw [e]
      refine ⟨?_, h _ _⟩
      show (textsOf P).toArray.size ≤ sizeLine
      rw [sizeLine_eq, List.size_toArray]; omega
theorem wp_slice {E : Value → Shared → Prop} {text : Array Nat} {b e : Nat} {Q : Value → Shared → Prop} (hz : text.size ≤ 1000000) (h : Q (.str ⟨text.extract b e⟩ s.toks) { s with toks := s.toks + 1 }) : wpAny (model prog w) A (reSlice text 0 b e) Q E s := by
  unfold reSlice
  simp only [beq_self_eq_true, if_true]
  refine wpAny_mkStr h ?_
  show (text.extract b e).size ≤ sizeLine
  rw [Array.size_extract, sizeLine_eq]; omega
theorem code_entry {id : String} {args : Args} {b : Builtin} (hb : entryFor table id = some b) (hp : plainId id = true)
    (h : wpAny (model prog w) A.in1 (b args) (fun fin s' => match fin with | .done f => R (.ok f) s' | .again c' => c'.quiet = true ∧ codeAny (model prog w) A c' R s') (fun e s' => R (.error e) s') s) :
    codeAny (model prog w) A (.builtin id args) R s := by
  refine codeAny_of_tree ?_
  show wpAny _ _ (match entryFor table id with | some b => b args | none => unsupported ((withoutEnding? id "#data").getD id)) _ _ s
  rw [hb, Around.under_plainId hp]
  exact h
theorem wp_subEnd {lp : Addr} {text : Array Nat} {P : List (Str × Tok)} {n : Nat} {E : Value → Shared → Prop} {Q : Value → Shared → Prop} (hz : text.size ≤ 1000000) (hp : s.heap.get? lp = some (listOf (strValues P).toArray n)) (hz2 : (textsOf P).length ≤ 1000000)
    (h : ∀ t' tk', Q (.str ⟨(textsOf P).toArray⟩ t') { s with toks := tk' }) :
    wpAny (model prog w) A (reSlice text 0 0 0 >>= fun joiner => seqItems? (.ref lp) >>= fun it => if (it.getD #[]).isEmpty = true then pure joiner >>= fun r => ret r else call (.builtin "str.join") [joiner, .ref lp] >>= fun r => ret r)
      (fun fin s' => ∃ v, fin = .done (.ret v) ∧ Q v s') E s := by
  refine wpAny_bind (wp_slice hz ?_)
  have e0 : (⟨text.extract 0 0⟩ : Str) = Str.empty := by
    have : text.extract 0 0 = #[] := by simp
    rw [this]; rfl
  rw [e0]
  refine wpAny_bind (wpAny_seqItems hp rfl ?_)
  refine wpAny_ite ?_
  split
  · rename_i hP
    refine wpAny_bind (wpAny_pure (wpAny_pure ⟨_, rfl, ?_⟩))
    have : P = [] := by
      cases P with
      | nil => rfl
      | cons p r => simp [strValues] at hP
    subst this
    exact h s.toks (s.toks + 1)
  · refine wpAny_bind (wp_join (s := { s with toks := s.toks + 1 }) hp hz2 fun t' tk' => wpAny_pure ⟨_, rfl, h t' tk'⟩)
theorem ex_fin {t : Sem Fin} {E : Value → Shared → Prop} {R' : Fin → Shared → Prop} {Q : Value → Shared → Prop} {M : Model} (h : wpAny M A t (fun fin s' => ∃ v, fin = .done (.ret v) ∧ Q v s') E s) (hq : ∀ v s', Q v s' → R' (.done (.ret v)) s') : wpAny M A t R' E s :=
  wpAny_mono h (fun fin s' ⟨v, e, q⟩ => by subst e; exact hq v s' q) fun _ _ x => x
theorem wp_subLoop {h₀ : Heap} {pat lp : Addr} {code : Array Nat} {text repl : Str} {tt rt : Tok} (P₀ : PatAt h₀ pat code) (hf : h₀.get? lp = none) (hz : text.cps.size ≤ 100000) :
    ∀ {d start : Nat} {must : Bool} {done : Nat} {out : List Nat}, SubRel code text.cps repl.cps.toList d start must done out → ∀ {s : Shared} {P : List (Str × Tok)} {n : Nat} {k t1 t2 t3 : Int × Tok},
      Keeps h₀ s.heap → s.heap.get? lp = some (listOf (strValues P).toArray n) → P.length + 2 * d ≤ 999990 → (textsOf P).length + out.length ≤ 1000000 →
      (∀ t' h' tk', Keeps h₀ h' → R (.ok (.ret (.str ⟨(textsOf P ++ out).toArray⟩ t'))) { s with heap := h', toks := tk' }) →
      codeAny (model prog w) A (.builtin "re.Pattern.sub.loop" ⟨[.ref pat, .str text tt, .str repl rt, rawInt 0, rawInt 0, .int k.1 k.2, rawInt done, rawInt start, .bool must, .ref lp, .bool false], []⟩) R s := by
  intro d start must done out hS
  induction hS with
  | @stop start must done he =>
    intro s P n k t1 t2 t3 hk hp hz1 hz2 hR
    refine code_entry entry_subLoop plain_subLoop ?_
    show wpAny _ _ (reWholeTarget (.ref pat) (.str text tt) >>= _) _ _ s
    refine wpAny_bind (wp_target (P₀.keeps hk) ?_)
    simp only [beq_self_eq_true, if_true]
    refine wpAny_bind ?_
    unfold reLiteralCannotBeTurned
    refine wpAny_bind (wpAny_pure ?_)
    refine wpAny_pure ?_
    refine wpAny_bind ?_
    simp only [bne_self_eq_false, Bool.false_and, Bool.false_eq_true, if_false, rawInt, Int.toNat_natCast]
    unfold reNextFound
    refine wp_reRunToEnd he (fun a b m' q _ _ => by cases q) (fun _ => ?_)
    dsimp only
    refine wpAny_ite ?_
    split
    · refine wpAny_bind (wp_slice (by omega) ?_)
      refine wpAny_bind (wp_pushPiece (s := { s with toks := s.toks + 1 }) hk hf hp (by omega) fun h' n' hk' hp' => ?_)
      have et : textsOf (P ++ [(⟨text.cps.extract done text.cps.size⟩, s.toks)]) = textsOf P ++ text.cps.toList.drop done := by
        rw [textsOf_snoc]
        congr 1
        simp only [Array.toList_extract, List.extract_eq_take_drop]
        exact List.take_of_length_le (by simp)
      refine ex_fin (wp_subEnd (s := { s with heap := h', toks := s.toks + 1 }) (by omega) hp' (by rw [et, List.length_append]; omega) (Q := fun v s' => ∃ t' tk', v = .str ⟨(textsOf P ++ text.cps.toList.drop done).toArray⟩ t' ∧ s' = { s with heap := h', toks := tk' }) fun t' tk' => ⟨t', tk', by rw [et], rfl⟩) ?_
      rintro v s' ⟨t', tk', rfl, rfl⟩
      exact hR t' h' tk' hk'
    · rename_i hlt
      have et : text.cps.toList.drop done = [] := List.drop_eq_nil_of_le (by rw [Array.length_toList]; omega)
      refine ex_fin (wp_subEnd (by omega) hp (by omega) (Q := fun v s' => ∃ t' tk', v = .str ⟨(textsOf P).toArray⟩ t' ∧ s' = { s with toks := tk' }) fun t' tk' => ⟨t', tk', rfl, rfl⟩) ?_
      rintro v s' ⟨t', tk', rfl, rfl⟩
      have := hR t' s.heap tk' hk
      rw [et, List.append_nil] at this
      exact this
  | @go d start must done a b rest he h1 h2 hr ih =>
    intro s P n k t1 t2 t3 hk hp hz1 hz2 hR
    refine code_entry entry_subLoop plain_subLoop ?_
    show wpAny _ _ (reWholeTarget (.ref pat) (.str text tt) >>= _) _ _ s
    refine wpAny_bind (wp_target (P₀.keeps hk) ?_)
    simp only [beq_self_eq_true, if_true]
    refine wpAny_bind ?_
    unfold reLiteralCannotBeTurned
    refine wpAny_bind (wpAny_pure ?_)
    refine wpAny_pure ?_
    refine wpAny_bind ?_
    simp only [bne_self_eq_false, Bool.false_and, Bool.false_eq_true, if_false, rawInt, Int.toNat_natCast]
    unfold reNextFound
    refine wp_reRunToEnd he (fun a' b' m' q ha hb => ?_) (fun q => by cases q)
    cases q
    dsimp only
    have hitem : (Value.str repl rt != Value.none) = true := rfl
    rw [ha, hb]
    have fin : ∀ (s₁ : Shared) (P₁ : List (Str × Tok)) (n₁ : Nat), (∃ h tk, s₁ = { s with heap := h, toks := tk }) → Keeps h₀ s₁.heap → s₁.heap.get? lp = some (listOf (strValues P₁).toArray n₁) → P₁.length ≤ P.length + 1 → textsOf P₁ = textsOf P ++ (text.cps.toList.drop done).take (a - done) →
        wpAny (model prog w) A.in1 (pure (Value.str repl rt) >>= fun item => if (item != Value.none) = true then updateSeq lp (fun x => x.push item) >>= fun _ => again (.builtin "re.Pattern.sub.loop" ⟨[.ref pat, .str text tt, .str repl rt, rawInt 0, rawInt 0, rawInt (k.1 + 1), rawInt b, rawInt b, .bool (b == a), .ref lp, .bool false], []⟩)
          else again (.builtin "re.Pattern.sub.loop" ⟨[.ref pat, .str text tt, .str repl rt, rawInt 0, rawInt 0, rawInt (k.1 + 1), rawInt b, rawInt b, .bool (b == a), .ref lp, .bool false], []⟩))
          (fun fin s' => match fin with | .done f => R (.ok f) s' | .again c' => c'.quiet = true ∧ codeAny (model prog w) A c' R s') (fun e s' => R (.error e) s') s₁ := by
      rintro s₁ P₁ n₁ ⟨h₁, tk₁, rfl⟩ hk₁ hp₁ hl₁ ht₁
      refine wpAny_bind (wpAny_pure ?_)
      simp only [hitem, if_true]
      refine wpAny_bind (wp_pushPiece hk₁ hf hp₁ (by omega) fun h' n' hk' hp' => wpAny_pure ⟨plainId_quiet plain_subLoop _, ?_⟩)
      have et : textsOf (P₁ ++ [(repl, rt)]) = textsOf P ++ ((text.cps.toList.drop done).take (a - done) ++ repl.cps.toList) := by
        rw [textsOf_snoc, ht₁, List.append_assoc]
      refine ih (s := { s with heap := h', toks := tk₁ }) (k := (k.1 + 1, 0)) (t1 := t1) (t2 := t2) (t3 := t3) hk' hp' (by rw [List.length_append]; simp only [List.length_cons, List.length_nil]; omega) ?_ fun t' h'' tk' hk'' => ?_
      · rw [et]
        simp only [List.length_append] at hz2 ⊢
        omega
      · have := hR t' h'' tk' hk''
        rw [et]
        rw [show textsOf P ++ ((text.cps.toList.drop done).take (a - done) ++ repl.cps.toList) ++ rest = textsOf P ++ ((text.cps.toList.drop done).take (a - done) ++ repl.cps.toList ++ rest) by simp only [List.append_assoc]]
        exact this
    refine wpAny_ite ?_
    split
    · refine wpAny_bind (wp_slice (by omega) ?_)
      refine wpAny_bind (wp_pushPiece (s := { s with toks := s.toks + 1 }) hk hf hp (by omega) fun h' n' hk' hp' => ?_)
      refine fin { s with heap := h', toks := s.toks + 1 } _ n' ⟨_, _, rfl⟩ hk' hp' (by simp) ?_
      rw [textsOf_snoc]
      congr 1
      simp [List.extract_eq_take_drop]
    · rename_i hlt
      refine fin s P n ⟨_, _, rfl⟩ hk hp (by omega) ?_
      rw [show a - done = 0 by omega]
      simp
end
end

end
section
section
open PySem.Sre PySem.Builtin.Re
theorem reNamed_sub (r t : Value) : reNamed "re.Pattern.sub" "sub" ["repl", "string", "count"] 2 [r, t] [] = pure [some r, some t, none] := by rfl
theorem str_noCall : typeLookup (.type "str") "__call__" = pure none := by rw [typeLookup_type, builtinLookup_eq_fast]; kernel_rfl
section
variable {prog : Program} {w : World} {A : Around} {s : Shared} {R : Result → Shared → Prop}
theorem wp_sub {pat : Addr} {code : Array Nat} {text repl : Str} {tt rt : Tok} {d : Nat} {out : List Nat} (P₀ : PatAt s.heap pat code) (hz : text.cps.size ≤ 100000) (hb : repl.cps.contains 92 = false)
    (hS : SubRel code text.cps repl.cps.toList d 0 false 0 out) (hd : d ≤ 400000) (ho : out.length ≤ 1000000)
    (hR : ∀ t' h' tk', Keeps s.heap h' → R (.ok (.ret (.str ⟨out.toArray⟩ t'))) { s with heap := h', toks := tk' }) :
    codeAny (model prog w) A (.call (.builtin "re.Pattern.sub") ⟨[.ref pat, .str repl rt, .str text tt], []⟩) R s := by
  have hT : s.TypeIs (.ref pat) "re.Pattern" := by
    obtain ⟨ct, o, oc, vs, cv, n, h1, h2, _⟩ := P₀.ex
    exact ⟨o, h1, h2⟩
  refine codeAny_call_builtin plain_sub entry_sub (slot_sub.check _ _ _ _ _ _ _ _ hT (args_sub _ _ _) ?_)
  show wpAny _ _ (reNamed "re.Pattern.sub" "sub" ["repl", "string", "count"] 2 [.str repl rt, .str text tt] [] >>= _) _ _ s
  rw [reNamed_sub]
  refine wpAny_bind (wpAny_pure ?_)
  dsimp only
  refine wpAny_bind (wpAny_pure ?_)
  refine wpAny_bind (wpAny_specialOf (T := "str") rfl str_noCall ?_)
  simp only [Option.isSome_none, Bool.false_eq_true, if_false]
  refine wpAny_bind ?_
  refine wpAny_bind (wpAny_pure ?_)
  refine wpAny_pure ?_
  dsimp only
  rw [hb]
  refine wpAny_bind (wpAny_pure ?_)
  simp only [Bool.not_false, if_true]
  refine wpAny_bind (wpAny_pure ?_)
  dsimp only
  refine wpAny_bind (wpAny_holding (wp_target P₀ ?_))
  simp only [show ((0 : Int) == 1) = false from rfl, Bool.false_eq_true, if_false]
  refine wpAny_bind (wpAny_newObj_type ?_ (by rw [show sizeOk (Data.seq (List.toArray ([] : List Value)) 0) = ((List.toArray ([] : List Value)).size ≤ sizeLine) from rfl]; decide))
  refine wpAny_pure ⟨plainId_quiet plain_subLoop _, ?_⟩
  have hk : Keeps s.heap (s.heap.push { cls := .type "list", data := .seq (List.toArray ([] : List Value)) }) := fun b o e => Heap.get?_push_of_some _ e
  refine wp_subLoop (d := d) (k := (0, 0)) (t1 := (0, 0)) (t2 := (0, 0)) (t3 := (0, 0)) P₀ ?_ hz hS (P := []) (n := 0) hk (Heap.get?_push_size _ rfl) (by simp only [List.length_nil]; omega) (by simp only [textsOf, List.map_nil, List.flatten_nil, List.length_nil]; omega) ?_
  · exact Heap.get?_none_of_le (Nat.le_refl _)
  · intro t' h' tk' hk'
    exact hR t' h' tk' hk'
end
end

end
section
section
open PySem.Sre
def codeI : Array Nat := #[14, 4, 0, 0, 0, 6, 1, 5, 5, 0, 6, 6, 1, 1]
def codeD : Array Nat := #[14, 4, 0, 1, 1, 6, 1, 16, 46, 1]
def codeC : Array Nat := #[14, 9, 4, 1, 2, 16, 10, 16, 13, 0, 7, 7, 16, 13, 16, 10, 15, 18, 5, 16, 10, 15, 13, 11, 16, 13, 5, 5, 0, 16, 10, 1, 15, 2, 0, 1]
/-- the engine at the head of an attempt -/
def AtS (code text : Array Nat) (lim last pc s : Nat) (must out : Bool) (seen : Sre.Seen) : M :=
  { code, text, lim, start := s, lastStart := last, mustAdvance := must, pc, pos := s, handed := s, outermost := out, marks := #[], frames := [{ wait := .nextStart, pc, pos := s, outermost := out }], weight := 1, seen }
theorem runFor_succ (n : Nat) (m : M) : m.runFor (n + 1) = if m.outcome.isSome then m else m.step.runFor n := rfl
theorem runFor_zero (m : M) : m.runFor 0 = m := rfl

theorem forSearch_D (text : Array Nat) (s : Nat) (must : Bool) (hs : s + 1 ≤ text.size) : forSearch codeD text 0 s text.size must = AtS codeD text text.size text.size 5 s must true (({} : Sre.Seen).add 14) := by
  have h1 : (header codeD).1 = 1 := by rfl
  unfold forSearch
  simp only [h1]
  rw [if_neg (by simp; omega)]
  rfl
theorem forSearch_D0 (text : Array Nat) (s : Nat) (must : Bool) (hs : ¬ s + 1 ≤ text.size) : EndsAs (forSearch codeD text 0 s text.size must) none := by
  have h1 : (header codeD).1 = 1 := by rfl
  unfold forSearch
  simp only [h1]
  rw [if_pos (by simp; omega)]
  exact ⟨1, by decide, rfl⟩
theorem forSearch_I (text : Array Nat) (s : Nat) (must : Bool) (hs : s ≤ text.size) : forSearch codeI text 0 s text.size must = AtS codeI text text.size text.size 5 s must true (({} : Sre.Seen).add 14) := by
  have h1 : (header codeI).1 = 0 := by rfl
  unfold forSearch
  simp only [h1]
  rw [if_neg (by simp; omega)]
  rfl
/-- the engine within an attempt that began at s: the place, what was handed, what is answered, what is under way -/
def InS (code text : Array Nat) (lim last pc₀ s : Nat) (must out₀ : Bool) (pc pos handed : Nat) (out : Bool) (ans : Option Bool) (fr : List Sre.Frame) (w : Nat) (seen : Sre.Seen) : M :=
  { code, text, lim, start := s, lastStart := last, mustAdvance := must, pc, pos, handed, outermost := out, marks := #[], frames := fr ++ [{ wait := .nextStart, pc := pc₀, pos := s, outermost := out₀ }], weight := w, answer := ans, seen }
section
variable (text : Array Nat) (lim last s : Nat) (must out : Bool) (sn : Sre.Seen)
theorem D1 : (AtS codeD text lim last 5 s must out sn).step = if (s == 0 || text.getD (s - 1) 0 == 10) = true then InS codeD text lim last 5 s must out 7 s s out none [] 1 ((sn.add 6).add 44) else InS codeD text lim last 5 s must out 5 s s out (some false) [] 1 ((sn.add 6).add 44) := by rfl
theorem step_lit (m : M) (h0 : m.outcome = none) (h1 : m.answer = none) (h2 : m.pc < m.code.size) (hop : ops[m.word 0]? = some .LITERAL) :
    m.step = if m.pos ≥ m.lim then ({ m with seen := m.seen.add (m.word 0) } : M).say false else if (m.text.getD m.pos 0 == m.word 1) = true then { m with seen := m.seen.add (m.word 0), pc := m.pc + 2, pos := m.pos + 1 } else ({ m with seen := m.seen.add (m.word 0) } : M).say false := by
  unfold M.step
  simp only [h0, Option.isSome_none, Bool.false_eq_true, if_false, h1]
  rw [if_pos h2]
  unfold M.exec
  simp only [hop]
  have hop' : ops[m.code.getD m.pc 0]? = some .LITERAL := hop
  have e : ∀ sn, accepts m.code m.pc (m.text.getD m.pos 0) sn = .ok (m.text.getD m.pos 0 == m.word 1, sn) := fun sn => by
    unfold accepts
    simp only [hop']
    rfl
  have ew : itemWidth m.code m.pc = 2 := by unfold itemWidth; simp only [hop']
  simp only [e, ew, h0, h1]
  split
  · rfl
  · cases m.text.getD m.pos 0 == m.word 1 <;> rfl
theorem D2 (hlt : s < lim) (hb : text.getD s 0 = 46) : (InS codeD text lim last 5 s must out 7 s s out none [] 1 sn).step = InS codeD text lim last 5 s must out 9 (s + 1) s out none [] 1 (sn.add 16) := by
  rw [step_lit _ rfl rfl (show 7 < 10 by decide) rfl]
  rw [if_neg (by show ¬ s ≥ lim; omega), if_pos (by show (text.getD s 0 == 46) = true; rw [hb]; rfl)]
  rfl
theorem D2n (hb : ¬ (s < lim ∧ text.getD s 0 = 46)) : (InS codeD text lim last 5 s must out 7 s s out none [] 1 sn).step = InS codeD text lim last 5 s must out 7 s s out (some false) [] 1 (sn.add 16) := by
  rw [step_lit _ rfl rfl (show 7 < 10 by decide) rfl]
  split
  · rfl
  · rename_i h
    rw [if_neg]
    · rfl
    · intro q
      have q' : (text.getD s 0 == 46) = true := q
      exact hb ⟨Nat.lt_of_not_le h, beq_iff_eq.mp q'⟩
theorem D3 : (InS codeD text lim last 5 s must out 9 (s + 1) s out none [] 1 sn).step = if (out && ((false && s + 1 != lim) || (must && s + 1 == s))) = true then InS codeD text lim last 5 s must out 9 (s + 1) s out (some false) [] 1 (sn.add 1) else
    InS codeD text lim last 5 s must out 9 (s + 1) (s + 1) out (some true) [] 1 (sn.add 1) := by rfl
/-- a hit is handed on to the end -/
theorem hit2 (code : Array Nat) (pc₀ pc pos handed : Nat) (out' : Bool) : let m := (InS code text lim last pc₀ s must out pc pos handed out' (some true) [] 1 sn).runFor 2; m.outcome = some .matched ∧ m.start = s ∧ m.handed = handed := ⟨rfl, rfl, rfl⟩
/-- a miss goes on to the next place -/
theorem D_miss (pc pos : Nat) (out' : Bool) : (InS codeD text lim last 5 s must out pc pos s out' (some false) [] 1 sn).step = if s < last then AtS codeD text lim last 5 (s + 1) false false sn else { InS codeD text lim last 5 s must out 5 s s out (some false) [] 0 sn with frames := [] } := by rfl
end
/-- the same, within so many steps -/
def EndsIn (K : Nat) (m : M) (r : Option (Nat × Nat)) : Prop := ∃ k, k ≤ K ∧ match r with
  | some (a, b) => (m.runFor k).outcome = some .matched ∧ (m.runFor k).start = a ∧ (m.runFor k).handed = b
  | none => (m.runFor k).outcome = some .failed
theorem EndsIn.step {K : Nat} {m : M} {r : Option (Nat × Nat)} (h0 : m.outcome = none) (h : EndsIn K m.step r) : EndsIn (K + 1) m r := by
  obtain ⟨k, hk, h⟩ := h
  refine ⟨k + 1, by omega, ?_⟩
  have e : m.runFor (k + 1) = m.step.runFor k := by rw [runFor_succ, h0]; rfl
  rw [e]
  exact h
theorem EndsIn.mono {K K' : Nat} {m : M} {r : Option (Nat × Nat)} (h : EndsIn K m r) (hk : K ≤ K') : EndsIn K' m r := let ⟨k, a, b⟩ := h; ⟨k, Nat.le_trans a hk, b⟩
theorem EndsIn.ends {K : Nat} {m : M} {r : Option (Nat × Nat)} (h : EndsIn K m r) (hk : K ≤ 1000000) : EndsAs m r := by
  obtain ⟨k, a, b⟩ := h
  refine ⟨k, Nat.le_trans a hk, ?_⟩
  cases r with
  | none => exact b
  | some p => exact b
/-- the next hit -/
def nxtF (hit : Nat → Bool → Bool) (e : Nat → Nat) : Nat → Nat → Bool → Option (Nat × Nat)
  | 0, _, _ => none
  | f + 1, s, must => if hit s must then some (s, e s) else nxtF hit e f (s + 1) false
/-- a search by attempts at each place -/
theorem ends_gen {code text : Array Nat} {lim pc₀ K : Nat} {hit : Nat → Bool → Bool} {e : Nat → Nat}
    (hhit : ∀ s must out sn, s ≤ lim → hit s must = true → EndsIn K (AtS code text lim lim pc₀ s must out sn) (some (s, e s)))
    (hmiss : ∀ s must out sn r J, s ≤ lim → (must = true → out = true) → hit s must = false → (s < lim → ∀ sn', EndsIn J (AtS code text lim lim pc₀ (s + 1) false false sn') r) → (s = lim → r = none) → EndsIn (K + J) (AtS code text lim lim pc₀ s must out sn) r) :
    ∀ f s must out sn, s ≤ lim → lim + 1 - s = f → (must = true → out = true) → EndsIn (K * f) (AtS code text lim lim pc₀ s must out sn) (nxtF hit e f s must) := by
  intro f
  induction f with
  | zero => intro s must out sn h1 h2; omega
  | succ f ih =>
    intro s must out sn h1 h2 h3
    unfold nxtF
    cases h : hit s must with
    | true => rw [if_pos rfl]; exact (hhit s must out sn h1 h).mono (by rw [Nat.mul_succ]; omega)
    | false =>
      rw [if_neg (by simp)]
      rw [Nat.mul_succ, Nat.add_comm]
      refine hmiss s must out sn _ _ h1 h3 h (fun hl sn' => ih (s + 1) false false sn' (by omega) (by omega) (fun q => by cases q)) fun hl => ?_
      have : f = 0 := by omega
      subst this
      rfl

def hitD (text : Array Nat) (s : Nat) (_ : Bool) : Bool := decide (s < text.size) && (s == 0 || text.getD (s - 1) 0 == 10) && text.getD s 0 == 46
theorem ends_D (text : Array Nat) (s : Nat) (must : Bool) (hs : s ≤ text.size) (hz : text.size ≤ 10000) : EndsAs (forSearch codeD text 0 s text.size must) (nxtF (hitD text) (· + 1) (text.size + 1 - s) s must) := by
  by_cases h : s + 1 ≤ text.size
  · rw [forSearch_D text s must h]
    refine (ends_gen (K := 6) ?_ ?_ _ s must true _ hs rfl (fun _ => rfl)).ends (by omega)
    · intro s must out sn hs hh
      simp only [hitD, Bool.and_eq_true, decide_eq_true_eq, beq_iff_eq] at hh
      refine EndsIn.step (K := 5) rfl ?_
      rw [D1, if_pos hh.1.2]
      refine EndsIn.step (K := 4) rfl ?_
      rw [D2 _ _ _ _ _ _ _ hh.1.1 hh.2]
      refine EndsIn.step (K := 3) rfl ?_
      rw [D3, if_neg (by simp)]
      have := hit2 text text.size text.size s must out (((sn.add 6).add 44).add 16 |>.add 1) codeD 5 9 (s + 1) (s + 1) out
      exact ⟨2, by omega, this⟩
    · intro s must out sn r J hs ho hh hJ hr
      have tail : ∀ pc pos out' sn, EndsIn (J + 2) (InS codeD text text.size text.size 5 s must out pc pos s out' (some false) [] 1 sn) r := by
        intro pc pos out' sn
        refine EndsIn.step (K := J + 1) rfl ?_
        rw [D_miss]
        split
        · rename_i hl
          exact (hJ hl _).mono (by omega)
        · rename_i hl
          rw [hr (by omega)]
          exact ⟨1, by omega, rfl⟩
      refine (EndsIn.step (K := J + 3) rfl ?_).mono (by omega)
      rw [D1]
      split
      · rename_i h1
        refine EndsIn.step (K := J + 2) rfl ?_
        rw [D2n]
        · exact tail _ _ _ _
        · rintro ⟨h2, h3⟩
          simp only [hitD, h1, h2, h3, decide_true, Bool.true_and, beq_self_eq_true] at hh
          cases hh
      · exact (tail _ _ _ _).mono (by omega)
  · have e : nxtF (hitD text) (· + 1) (text.size + 1 - s) s must = none := by
      rw [show text.size + 1 - s = 1 by omega]
      unfold nxtF
      rw [if_neg]
      · rfl
      · simp [hitD]; omega
    rw [e]
    exact forSearch_D0 text s must h
end

end
section
section
open PySem.Sre
def lookF (s : Nat) (out : Bool) : Sre.Frame := { wait := .lookNot, pc := 7, pos := s, outermost := out, kept := { lastmark := -1, lastindex := -1, whole := false, marks := #[] } }
section
variable (text : Array Nat) (lim last s : Nat) (must out : Bool) (sn : Sre.Seen)
theorem I1 : (AtS codeI text lim last 5 s must out sn).step = if (s == 0 || text.getD (s - 1) 0 == 10) = true then InS codeI text lim last 5 s must out 7 s s out none [] 1 ((sn.add 6).add 44) else InS codeI text lim last 5 s must out 5 s s out (some false) [] 1 ((sn.add 6).add 44) := by rfl
theorem I2 : (InS codeI text lim last 5 s must out 7 s s out none [] 1 sn).step = InS codeI text lim last 5 s must out 10 s s false none [lookF s out] 2 (sn.add 5) := by rfl
theorem I3 : (InS codeI text lim last 5 s must out 10 s s false none [lookF s out] 2 sn).step = if (s == lim || text.getD s 0 == 10) = true then InS codeI text lim last 5 s must out 12 s s false none [lookF s out] 2 ((sn.add 6).add 49) else InS codeI text lim last 5 s must out 10 s s false (some false) [lookF s out] 2 ((sn.add 6).add 49) := by rfl
theorem I4 : (InS codeI text lim last 5 s must out 12 s s false none [lookF s out] 2 sn).step = InS codeI text lim last 5 s must out 12 s s false (some true) [lookF s out] 2 (sn.add 1) := by rfl
theorem I5 : (InS codeI text lim last 5 s must out 12 s s false (some true) [lookF s out] 2 sn).step = InS codeI text lim last 5 s must out 7 s s out (some false) [] 1 sn := by rfl
theorem I4' : (InS codeI text lim last 5 s must out 10 s s false (some false) [lookF s out] 2 sn).step = InS codeI text lim last 5 s must out 13 s s out none [] 1 sn := by rfl
theorem I5' : (InS codeI text lim last 5 s must out 13 s s out none [] 1 sn).step = if (out && ((false && s != lim) || (must && s == s))) = true then InS codeI text lim last 5 s must out 13 s s out (some false) [] 1 (sn.add 1) else InS codeI text lim last 5 s must out 13 s s out (some true) [] 1 (sn.add 1) := by rfl
theorem I_miss (pc pos : Nat) (out' : Bool) : (InS codeI text lim last 5 s must out pc pos s out' (some false) [] 1 sn).step = if s < last then AtS codeI text lim last 5 (s + 1) false false sn else { InS codeI text lim last 5 s must out 5 s s out (some false) [] 0 sn with frames := [] } := by rfl
end
def hitI (text : Array Nat) (s : Nat) (must : Bool) : Bool := !must && (s == 0 || text.getD (s - 1) 0 == 10) && !(s == text.size || text.getD s 0 == 10)
theorem ends_I (text : Array Nat) (s : Nat) (must : Bool) (hs : s ≤ text.size) (hz : text.size ≤ 10000) : EndsAs (forSearch codeI text 0 s text.size must) (nxtF (hitI text) (fun a => a) (text.size + 1 - s) s must) := by
  rw [forSearch_I text s must hs]
  refine (ends_gen (K := 8) ?_ ?_ _ s must true _ hs rfl (fun _ => rfl)).ends (by omega)
  · intro s must out sn hs hh
    simp only [hitI, Bool.and_eq_true, Bool.not_eq_true'] at hh
    refine EndsIn.step (K := 7) rfl ?_
    rw [I1, if_pos hh.1.2]
    refine EndsIn.step (K := 6) rfl ?_
    rw [I2]
    refine EndsIn.step (K := 5) rfl ?_
    rw [I3, if_neg (by rw [hh.2]; simp)]
    refine EndsIn.step (K := 4) rfl ?_
    rw [I4']
    refine EndsIn.step (K := 3) rfl ?_
    rw [I5', if_neg (by rw [hh.1.1]; simp)]
    exact ⟨2, by omega, hit2 text text.size text.size s must out _ codeI 5 13 s s out⟩
  · intro s must out sn r J hs ho hh hJ hr
    have tail : ∀ pc pos out' sn, EndsIn (J + 2) (InS codeI text text.size text.size 5 s must out pc pos s out' (some false) [] 1 sn) r := by
      intro pc pos out' sn
      refine EndsIn.step (K := J + 1) rfl ?_
      rw [I_miss]
      split
      · rename_i hl
        exact (hJ hl _).mono (by omega)
      · rename_i hl
        rw [hr (by omega)]
        exact ⟨1, by omega, rfl⟩
    refine (EndsIn.step (K := J + 7) rfl ?_).mono (by omega)
    rw [I1]
    split
    · rename_i h1
      refine EndsIn.step (K := J + 6) rfl ?_
      rw [I2]
      refine EndsIn.step (K := J + 5) rfl ?_
      rw [I3]
      split
      · refine EndsIn.step (K := J + 4) rfl ?_
        rw [I4]
        refine EndsIn.step (K := J + 3) rfl ?_
        rw [I5]
        exact (tail _ _ _ _).mono (by omega)
      · rename_i h2
        refine EndsIn.step (K := J + 4) rfl ?_
        rw [I4']
        refine EndsIn.step (K := J + 3) rfl ?_
        have hm : must = true := by
          cases must with
          | true => rfl
          | false =>
            simp only [hitI, h1, Bool.not_false, Bool.true_and, Bool.not_eq_false'] at hh
            exact absurd hh h2
        rw [I5', if_pos (by rw [hm, ho hm]; simp)]
        exact (tail _ _ _ _).mono (by omega)
    · exact (tail _ _ _ _).mono (by omega)
end

end
section
section
open PySem.Sre
def kept0 : Sre.Kept := { lastmark := -1, lastindex := -1, whole := false, marks := #[] }
def brF (alt s : Nat) : Sre.Frame := { wait := .nextBranch, pc := alt, pos := s, outermost := true, kept := kept0 }
def laF (s : Nat) : Sre.Frame := { wait := .lookNot, pc := 26, pos := s, outermost := true, kept := kept0 }
section
variable (text : Array Nat) (lim s pos pc handed : Nat) (sn : Sre.Seen)
/-- within the third pattern's attempt -/
abbrev InC (pc pos handed : Nat) (out : Bool) (ans : Option Bool) (fr : List Sre.Frame) (w : Nat) (sn : Sre.Seen) : M := InS codeC text lim lim 10 s false true pc pos handed out ans fr w sn
theorem C1 : (AtS codeC text lim lim 10 s false true sn).step = InC text lim s 12 s s true none [brF 11 s] 2 (sn.add 7) := by rfl
theorem C_alt2 : (InC text lim s pc pos s true (some false) [brF 11 s] 2 sn).step = InC text lim s 19 s s true none [brF 18 s] 2 sn := by rfl
theorem C_alt3 : (InC text lim s pc pos s true (some false) [brF 18 s] 2 sn).step = InC text lim s 24 s s true none [brF 23 s] 2 sn := by rfl
theorem C_lit (out : Bool) (fr : List Sre.Frame) (w q : Nat) (hq : pc + 1 < 36) (hop : codeC.getD pc 0 = 16) (hw : codeC.getD (pc + 1) 0 = q) (hlt : pos < lim) (hc : text.getD pos 0 = q) : (InC text lim s pc pos handed out none fr w sn).step = InC text lim s (pc + 2) (pos + 1) handed out none fr w (sn.add 16) := by
  have e0 : (InC text lim s pc pos handed out none fr w sn).word 0 = 16 := hop
  have e1 : (InC text lim s pc pos handed out none fr w sn).word 1 = q := hw
  rw [step_lit _ rfl rfl (show pc < 36 by omega) (by rw [e0]; rfl)]
  rw [if_neg (by show ¬ pos ≥ lim; omega), e0, e1, if_pos (by show (text.getD pos 0 == q) = true; rw [hc]; simp)]
  rfl
theorem C_litn (out : Bool) (fr : List Sre.Frame) (w q : Nat) (hq : pc + 1 < 36) (hop : codeC.getD pc 0 = 16) (hw : codeC.getD (pc + 1) 0 = q) (hc : ¬ (pos < lim ∧ text.getD pos 0 = q)) : (InC text lim s pc pos handed out none fr w sn).step = InC text lim s pc pos handed out (some false) fr w (sn.add 16) := by
  have e0 : (InC text lim s pc pos handed out none fr w sn).word 0 = 16 := hop
  have e1 : (InC text lim s pc pos handed out none fr w sn).word 1 = q := hw
  rw [step_lit _ rfl rfl (show pc < 36 by omega) (by rw [e0]; rfl), e0, e1]
  split
  · rfl
  · rename_i h
    rw [if_neg]
    · rfl
    · intro q'
      have q'' : (text.getD pos 0 == q) = true := q'
      exact hc ⟨Nat.lt_of_not_le h, beq_iff_eq.mp q''⟩
theorem C_jump16 (fr : List Sre.Frame) (w : Nat) : (InC text lim s 16 pos handed true none fr w sn).step = InC text lim s 35 pos handed true none fr w (sn.add 15) := by rfl
theorem C_jump21 (fr : List Sre.Frame) (w : Nat) : (InC text lim s 21 pos handed true none fr w sn).step = InC text lim s 35 pos handed true none fr w (sn.add 15) := by rfl
theorem C_jump32 (fr : List Sre.Frame) (w : Nat) : (InC text lim s 32 pos handed true none fr w sn).step = InC text lim s 35 pos handed true none fr w (sn.add 15) := by rfl
theorem C_succ (fr : List Sre.Frame) (w : Nat) : (InC text lim s 35 pos handed true none fr w sn).step = InC text lim s 35 pos pos true (some true) fr w (sn.add 1) := by rfl
theorem C_yes (alt : Nat) : (InC text lim s pc pos handed true (some true) [brF alt s] 2 sn).step = InC text lim s alt s handed true (some true) [] 1 sn := by rfl
theorem C_look : (InC text lim s 26 pos handed true none [brF 23 s] 2 sn).step = InC text lim s 29 pos pos false none [laF pos, brF 23 s] 3 (sn.add 5) := by rfl
theorem C_lookNo (pos' : Nat) : (InC text lim s 29 pos' pos false (some false) [laF pos, brF 23 s] 3 sn).step = InC text lim s 32 pos pos true none [brF 23 s] 2 sn := by rfl
/-- from the success on -/
theorem C_end (alt : Nat) : EndsIn 4 (InC text lim s 35 pos handed true none [brF alt s] 2 sn) (some (s, pos)) := by
  refine EndsIn.step (K := 3) rfl ?_
  rw [C_succ]
  refine EndsIn.step (K := 2) rfl ?_
  rw [C_yes]
  exact ⟨2, by omega, hit2 text lim lim s false true _ codeC 10 alt s pos true⟩
end
def hitC (text : Array Nat) (s : Nat) (_ : Bool) : Bool := decide (s < text.size) && (text.getD s 0 == 10 || text.getD s 0 == 13)
def endC (text : Array Nat) (s : Nat) : Nat := if text.getD s 0 = 13 ∧ s + 1 < text.size ∧ text.getD (s + 1) 0 = 10 then s + 2 else s + 1
theorem attempt_C (text : Array Nat) (s : Nat) (sn : Sre.Seen) (h : hitC text s false = true) : EndsIn 20 (AtS codeC text text.size text.size 10 s false true sn) (some (s, endC text s)) := by
  simp only [hitC, Bool.and_eq_true, decide_eq_true_eq, Bool.or_eq_true, beq_iff_eq] at h
  obtain ⟨hlt, hc⟩ := h
  refine EndsIn.step (K := 19) rfl ?_
  rw [C1]
  by_cases h13 : text.getD s 0 = 13
  · refine EndsIn.step (K := 18) rfl ?_
    rw [C_lit (q := 13) (hq := by omega) (hop := rfl) (hw := rfl) (hlt := hlt) (hc := h13)]
    refine EndsIn.step (K := 17) rfl ?_
    by_cases h10 : s + 1 < text.size ∧ text.getD (s + 1) 0 = 10
    · rw [C_lit (q := 10) (hq := by omega) (hop := rfl) (hw := rfl) (hlt := h10.1) (hc := h10.2)]
      refine EndsIn.step (K := 16) rfl ?_
      rw [C_jump16]
      have e : endC text s = s + 1 + 1 := by unfold endC; rw [if_pos ⟨h13, h10⟩]
      rw [e]
      exact (C_end ..).mono (by omega)
    · have e : endC text s = s + 1 := by unfold endC; rw [if_neg fun q => h10 q.2]
      rw [C_litn (q := 10) (hq := by omega) (hop := rfl) (hw := rfl) (hc := h10)]
      refine EndsIn.step (K := 16) rfl ?_
      rw [C_alt2]
      refine EndsIn.step (K := 15) rfl ?_
      rw [C_litn (q := 10) (hq := by omega) (hop := rfl) (hw := rfl) (hc := fun q => by rw [h13] at q; exact absurd q.2 (by decide))]
      refine EndsIn.step (K := 14) rfl ?_
      rw [C_alt3]
      refine EndsIn.step (K := 13) rfl ?_
      rw [C_lit (q := 13) (hq := by omega) (hop := rfl) (hw := rfl) (hlt := hlt) (hc := h13)]
      refine EndsIn.step (K := 12) rfl ?_
      rw [C_look]
      refine EndsIn.step (K := 11) rfl ?_
      rw [C_litn (q := 10) (hq := by omega) (hop := rfl) (hw := rfl) (hc := h10)]
      refine EndsIn.step (K := 10) rfl ?_
      rw [C_lookNo]
      refine EndsIn.step (K := 9) rfl ?_
      rw [C_jump32, e]
      exact (C_end ..).mono (by omega)
  · have h10 : text.getD s 0 = 10 := hc.resolve_right h13
    have e : endC text s = s + 1 := by unfold endC; rw [if_neg fun q => h13 q.1]
    refine EndsIn.step (K := 18) rfl ?_
    rw [C_litn (q := 13) (hq := by omega) (hop := rfl) (hw := rfl) (hc := fun q => h13 q.2)]
    refine EndsIn.step (K := 17) rfl ?_
    rw [C_alt2]
    refine EndsIn.step (K := 16) rfl ?_
    rw [C_lit (q := 10) (hq := by omega) (hop := rfl) (hw := rfl) (hlt := hlt) (hc := h10)]
    refine EndsIn.step (K := 15) rfl ?_
    rw [C_jump21, e]
    exact (C_end ..).mono (by omega)
theorem inSet_C (c : Nat) (sn : Sre.Seen) : ∃ sn', inSet codeC c 36 5 true sn = .ok (c == 10 || c == 13, sn') := by
  have e : inSet codeC c 36 5 true sn = if (c == 10) = true then .ok (true, sn.add 16) else if (c == 13) = true then .ok (true, (sn.add 16).add 16) else .ok (false, ((sn.add 16).add 16).add 0) := by rfl
  rw [e]
  cases h1 : c == 10 with
  | true => exact ⟨_, rfl⟩
  | false =>
    cases h2 : c == 13 with
    | true => exact ⟨_, rfl⟩
    | false => exact ⟨_, rfl⟩
theorem admitted_C (m : M) (hc : m.code = codeC) (hl : m.lim = m.text.size) : ∀ f s sn, ∃ sn', M.admitted m f s sn = .ok ((nxtF (hitC m.text) (endC m.text) f s false).map (·.1), sn') := by
  intro f
  induction f with
  | zero => intro s sn; exact ⟨sn, rfl⟩
  | succ f ih =>
    intro s sn
    unfold M.admitted nxtF
    by_cases h : s ≥ m.lim
    · rw [if_pos h]
      have hh : ∀ s, s ≥ m.lim → hitC m.text s false = false := fun s h => by simp only [hitC]; rw [decide_eq_false (by omega)]; rfl
      have hn : ∀ f s, s ≥ m.lim → nxtF (hitC m.text) (endC m.text) f s false = none := by
        intro f
        induction f with
        | zero => intro s _; rfl
        | succ f ih => intro s hs; unfold nxtF; rw [hh s hs, if_neg (by simp)]; exact ih (s + 1) (by omega)
      rw [hh s h, if_neg (by simp), hn f (s + 1) (by omega)]
      exact ⟨sn, rfl⟩
    · rw [if_neg h, hc]
      obtain ⟨sn', e⟩ := inSet_C (m.text.getD s 0) sn
      have e' : inSet codeC (m.text.getD s 0) codeC.size 5 true sn = _ := e
      rw [e']
      have hh : hitC m.text s false = (m.text.getD s 0 == 10 || m.text.getD s 0 == 13) := by simp only [hitC]; rw [decide_eq_true (by omega)]; rfl
      rw [hh]
      cases m.text.getD s 0 == 10 || m.text.getD s 0 == 13 with
      | true => exact ⟨sn', rfl⟩
      | false => exact ih (s + 1) sn'
theorem nxtF_some {hit : Nat → Bool → Bool} {e : Nat → Nat} : ∀ {f s : Nat} {must : Bool} {p : Nat × Nat}, nxtF hit e f s must = some p → p.2 = e p.1 ∧ (hit p.1 must = true ∨ hit p.1 false = true)
  | 0, _, _, _, h => by cases h
  | f + 1, s, must, p, h => by
    unfold nxtF at h
    split at h
    · rename_i hh
      cases h
      exact ⟨rfl, .inl hh⟩
    · obtain ⟨a, b⟩ := nxtF_some h
      exact ⟨a, .inr (b.elim id id)⟩
theorem ends_C (text : Array Nat) (s : Nat) (must : Bool) (hs : s ≤ text.size) : EndsAs (forSearch codeC text 0 s text.size must) (nxtF (hitC text) (endC text) (text.size + 1 - s) s must) := by
  have hm : nxtF (hitC text) (endC text) (text.size + 1 - s) s must = nxtF (hitC text) (endC text) (text.size + 1 - s) s false := by
    rw [show text.size + 1 - s = (text.size - s) + 1 by omega]
    rfl
  rw [hm]
  have h1 : (header codeC).1 = 1 := by rfl
  unfold forSearch
  simp only [h1]
  by_cases h : s + 1 ≤ text.size
  · rw [if_neg (by simp; omega)]
    let m₀ : M := { AtS codeC text text.size text.size 10 s must true (({} : Sre.Seen).add 14) with frames := [], weight := 0 }
    obtain ⟨sn', e⟩ := admitted_C m₀ rfl rfl (text.size + 1 - s) s (({} : Sre.Seen).add 14)
    have ef : m₀.attemptFrom s true = match M.admitted m₀ (text.size + 1 - s) s (({} : Sre.Seen).add 14) with
      | .ok (some s', seen) => ({ m₀ with mustAdvance := false, seen } : M).attemptAt s' true
      | .ok (none, seen) => ({ m₀ with seen } : M).say false
      | .error why => m₀.stick why := by rfl
    show EndsAs (m₀.attemptFrom s true) _
    rw [ef, e]
    cases hn : nxtF (hitC text) (endC text) (text.size + 1 - s) s false with
    | none =>
      have hn' : nxtF (hitC m₀.text) (endC m₀.text) (text.size + 1 - s) s false = none := hn
      rw [hn']
      exact ⟨1, by decide, rfl⟩
    | some p =>
      have hn' : nxtF (hitC m₀.text) (endC m₀.text) (text.size + 1 - s) s false = some p := hn
      rw [hn']
      obtain ⟨a, b⟩ := p
      obtain ⟨q1, q2⟩ := nxtF_some hn
      have q3 : hitC text a false = true := q2.elim id id
      have q1' : b = endC text a := q1
      rw [q1']
      exact (attempt_C text a sn' q3).ends (by decide)
  · rw [if_pos (by simp; omega)]
    have e : nxtF (hitC text) (endC text) (text.size + 1 - s) s false = none := by
      rw [show text.size + 1 - s = 1 by omega]
      unfold nxtF
      rw [if_neg]
      · rfl
      · simp [hitC]; omega
    rw [e]
    exact ⟨1, by decide, rfl⟩
end

end
section
section
open PySem.Sre
/-- SubRel over a function that tells the next hit -/
inductive SubN (nx : Nat → Bool → Option (Nat × Nat)) (T repl : List Nat) : Nat → Nat → Bool → Nat → List Nat → Prop
  | stop {start : Nat} {must : Bool} {done : Nat} : nx start must = none → start ≤ T.length → SubN nx T repl 0 start must done (T.drop done)
  | go {d start : Nat} {must : Bool} {done a b : Nat} {rest : List Nat} : nx start must = some (a, b) → start ≤ T.length → done ≤ a → a ≤ T.length → SubN nx T repl d b (b == a) b rest →
      SubN nx T repl (d + 1) start must done ((T.drop done).take (a - done) ++ repl ++ rest)
theorem SubN.rel {code : Array Nat} {nx : Nat → Bool → Option (Nat × Nat)} {T repl : List Nat} (hends : ∀ s must, s ≤ T.length → EndsAs (forSearch code T.toArray 0 s T.length must) (nx s must)) :
    ∀ {d s : Nat} {must : Bool} {done : Nat} {out : List Nat}, SubN nx T repl d s must done out → SubRel code T.toArray repl d s must done out := by
  intro d s must done out h
  induction h with
  | @stop start must done h1 h2 =>
    have := hends start must h2
    rw [h1] at this
    exact .stop this
  | @go d start must done a b rest h1 h2 h3 h4 _ ih =>
    have := hends start must h2
    rw [h1] at this
    exact .go this h3 (by simpa using h4) ih
theorem SubN.from {nx : Nat → Bool → Option (Nat × Nat)} {T repl : List Nat} {d s s' : Nat} {must must' : Bool} {done : Nat} {out : List Nat} (h : SubN nx T repl d s' must' done out) (e : nx s must = nx s' must') (hs : s ≤ T.length) : SubN nx T repl d s must done out := by
  cases h with
  | stop g1 g2 => exact .stop (e.trans g1) hs
  | go g1 g2 g3 g4 g5 => exact .go (e.trans g1) hs g3 g4 g5
theorem sub_gen {T repl : List Nat} {hit : Nat → Bool → Bool} {e : Nat → Nat} (X : Nat → Bool → List Nat)
    (he : ∀ s must, s ≤ T.length → hit s must = true → s ≤ e s ∧ e s ≤ T.length ∧ (e s = s → must = false))
    (hstep : ∀ s must, hit s must = false → s < T.length → X s must = T.getD s 0 :: X (s + 1) false)
    (hlast : ∀ must, hit T.length must = false → X T.length must = [])
    (hhit : ∀ s must, s ≤ T.length → hit s must = true → X s must = repl ++ X (e s) (e s == s)) :
    ∀ n s must done, done ≤ s → s ≤ T.length → 2 * (T.length - s) + (if must = true then 0 else 1) ≤ n →
      ∃ d, d ≤ n + 1 ∧ SubN (fun s must => nxtF hit e (T.length + 1 - s) s must) T repl d s must done ((T.drop done).take (s - done) ++ X s must) := by
  intro n
  induction n with
  | zero =>
    intro s must done h1 h2 h3
    have hs : s = T.length := by omega
    have hm : must = true := by cases must with
      | true => rfl
      | false => simp at h3
    subst hm hs
    have hh : hit T.length true = false := by
      cases q : hit T.length true with
      | false => rfl
      | true => obtain ⟨a, b, c⟩ := he _ _ h2 q; exact absurd (c (by omega)) (by decide)
    refine ⟨0, by omega, ?_⟩
    rw [hlast _ hh, List.append_nil, List.take_of_length_le (by simp)]
    refine .stop ?_ h2
    show nxtF hit e (T.length + 1 - T.length) T.length true = none
    rw [show T.length + 1 - T.length = 1 by omega]
    unfold nxtF
    rw [hh, if_neg (by simp)]
    rfl
  | succ n ih =>
    intro s must done h1 h2 h3
    cases hh : hit s must with
    | true =>
      obtain ⟨e1, e2, e3⟩ := he s must h2 hh
      have hm : 2 * (T.length - e s) + (if (e s == s) = true then 0 else 1) ≤ n := by
        by_cases q : e s = s
        · have := e3 q
          subst this
          rw [q]
          simp at h3 ⊢
          omega
        · have : (e s == s) = false := by simpa using q
          rw [this]
          split at h3 <;> simp <;> omega
      obtain ⟨d, hd, hS⟩ := ih (e s) (e s == s) (e s) (Nat.le_refl _) e2 hm
      refine ⟨d + 1, by omega, ?_⟩
      rw [Nat.sub_self, List.take_zero, List.nil_append] at hS
      rw [hhit s must h2 hh, ← List.append_assoc]
      refine .go ?_ h2 h1 h2 hS
      show nxtF hit e (T.length + 1 - s) s must = _
      rw [show T.length + 1 - s = (T.length - s) + 1 by omega]
      unfold nxtF
      rw [hh, if_pos rfl]
    | false =>
      by_cases hs : s < T.length
      · obtain ⟨d, hd, hS⟩ := ih (s + 1) false done (by omega) (by omega) (by simp; split at h3 <;> omega)
        refine ⟨d, by omega, ?_⟩
        have enx : nxtF hit e (T.length + 1 - s) s must = nxtF hit e (T.length + 1 - (s + 1)) (s + 1) false := by
          rw [show T.length + 1 - s = (T.length + 1 - (s + 1)) + 1 by omega]
          conv => lhs; unfold nxtF
          rw [hh, if_neg (by simp)]
        have eout : (T.drop done).take (s - done) ++ X s must = (T.drop done).take (s + 1 - done) ++ X (s + 1) false := by
          rw [hstep s must hh hs, show s + 1 - done = (s - done) + 1 by omega, List.take_add_one]
          have : (T.drop done)[s - done]? = some (T.getD s 0) := by
            rw [List.getElem?_drop, show done + (s - done) = s by omega]
            simp [hs]
          rw [this]
          simp
        rw [eout]
        exact hS.from enx h2
      · have hs' : s = T.length := by omega
        subst hs'
        refine ⟨0, by omega, ?_⟩
        rw [hlast _ hh, List.append_nil, List.take_of_length_le (by simp)]
        refine .stop ?_ h2
        show nxtF hit e (T.length + 1 - T.length) T.length must = none
        rw [show T.length + 1 - T.length = 1 by omega]
        unfold nxtF
        rw [hh, if_neg (by simp)]
        rfl

def dotsL : Bool → List Nat → List Nat
  | _, [] => []
  | first, c :: r => (if first && c == 46 then [46, 46] else [c]) ++ dotsL (c == 10) r
def indL (k : Nat) : Bool → List Nat → List Nat
  | _, [] => []
  | first, c :: r => (if first && c != 10 then List.replicate k 32 else []) ++ c :: indL k (c == 10) r
def crlfL : List Nat → List Nat
  | [] => []
  | [c] => if c == 10 || c == 13 then [13, 10] else [c]
  | c :: d :: r => if c == 13 && d == 10 then 13 :: 10 :: crlfL r else if c == 10 || c == 13 then 13 :: 10 :: crlfL (d :: r) else c :: crlfL (d :: r)
theorem crlfL_two (c d : Nat) (r : List Nat) : crlfL (c :: d :: r) = if c == 13 && d == 10 then 13 :: 10 :: crlfL r else if c == 10 || c == 13 then 13 :: 10 :: crlfL (d :: r) else c :: crlfL (d :: r) := by rw [crlfL]
theorem crlfL_one (c : Nat) : crlfL [c] = if c == 10 || c == 13 then [13, 10] else [c] := by rw [crlfL]
theorem crlfL_nil : crlfL [] = [] := by rw [crlfL]
/-- whether a line begins at s -/
def bol (T : List Nat) (s : Nat) : Bool := s == 0 || T.getD (s - 1) 0 == 10
theorem bol_succ (T : List Nat) (s : Nat) : bol T (s + 1) = (T.getD s 0 == 10) := by simp [bol]
theorem drop_at {T : List Nat} {s : Nat} (h : s < T.length) : T.drop s = T.getD s 0 :: T.drop (s + 1) := by
  rw [List.drop_eq_getElem_cons h]
  simp [h]
theorem getD_arr (T : List Nat) (i : Nat) : T.toArray.getD i 0 = T.getD i 0 := by simp

theorem subD (T : List Nat) (hz : T.length ≤ 10000) : ∃ d, d ≤ 2 * T.length + 2 ∧ SubRel codeD T.toArray [46, 46] d 0 false 0 (dotsL true T) := by
  have hsz : T.toArray.size = T.length := by simp
  refine Exists.elim (sub_gen (T := T) (repl := [46, 46]) (hit := hitD T.toArray) (e := (· + 1)) (fun s _ => dotsL (bol T s) (T.drop s)) ?_ ?_ ?_ ?_ (2 * T.length + 1) 0 false 0 (Nat.le_refl _) (Nat.zero_le _) (by simp)) (fun d ⟨hd, h⟩ => ?_)
  · intro s must hs hh
    simp only [hitD, Bool.and_eq_true, decide_eq_true_eq] at hh
    refine ⟨by omega, by have := hh.1.1; rw [hsz] at this; omega, fun q => by omega⟩
  · intro s must hh hs
    simp only [hitD, hsz, decide_eq_true hs, Bool.true_and, getD_arr] at hh
    show dotsL (bol T s) (T.drop s) = T.getD s 0 :: dotsL (bol T (s + 1)) (T.drop (s + 1))
    rw [drop_at hs, bol_succ]
    conv => lhs; unfold dotsL
    have : (bol T s && T.getD s 0 == 46) = false := hh
    rw [this]
    rfl
  · intro must hh
    show dotsL (bol T T.length) (T.drop T.length) = []
    rw [List.drop_length]
    rfl
  · intro s must hs hh
    simp only [hitD, Bool.and_eq_true, decide_eq_true_eq, getD_arr, hsz] at hh
    show dotsL (bol T s) (T.drop s) = [46, 46] ++ dotsL (bol T (s + 1)) (T.drop (s + 1))
    rw [drop_at hh.1.1, bol_succ]
    conv => lhs; unfold dotsL
    have : (bol T s && T.getD s 0 == 46) = true := by
      have q : bol T s = true := hh.1.2
      rw [q, hh.2]; rfl
    rw [this]
    rfl
  · refine ⟨d, by omega, ?_⟩
    refine SubN.rel (nx := fun s must => nxtF (hitD T.toArray) (· + 1) (T.length + 1 - s) s must) (fun s must hs => ?_) ?_
    · have := ends_D T.toArray s must (by simpa using hs) (by simpa using hz)
      rw [hsz] at this
      exact this
    · simpa [bol] using h
theorem subI (k : Nat) (T : List Nat) (hz : T.length ≤ 10000) : ∃ d, d ≤ 2 * T.length + 2 ∧ SubRel codeI T.toArray (List.replicate k 32) d 0 false 0 (indL k true T) := by
  have hsz : T.toArray.size = T.length := by simp
  refine Exists.elim (sub_gen (T := T) (repl := List.replicate k 32) (hit := hitI T.toArray) (e := fun a => a) (fun s must => if must then (match T.drop s with | [] => [] | c :: r => c :: indL k (c == 10) r) else indL k (bol T s) (T.drop s)) ?_ ?_ ?_ ?_ (2 * T.length + 1) 0 false 0 (Nat.le_refl _) (Nat.zero_le _) (by simp)) (fun d ⟨hd, h⟩ => ?_)
  · intro s must hs hh
    simp only [hitI, Bool.and_eq_true, Bool.not_eq_true'] at hh
    exact ⟨Nat.le_refl _, hs, fun _ => hh.1.1⟩
  · intro s must hh hs
    have hne : (s == T.toArray.size) = false := by rw [hsz]; simp; omega
    simp only [hitI, hne, Bool.false_or, getD_arr] at hh
    have e2 : indL k (bol T (s + 1)) (T.drop (s + 1)) = indL k (T.getD s 0 == 10) (T.drop (s + 1)) := by rw [bol_succ]
    cases must with
    | true =>
      simp only [if_true, Bool.false_eq_true, if_false]
      rw [drop_at hs, e2]
    | false =>
      simp only [Bool.false_eq_true, if_false]
      rw [drop_at hs, e2]
      conv => lhs; unfold indL
      have : (bol T s && T.getD s 0 != 10) = false := hh
      rw [this]
      rfl
  · intro must hh
    rw [List.drop_length]
    cases must <;> rfl
  · intro s must hs hh
    simp only [hitI, Bool.and_eq_true, Bool.not_eq_true', hsz, getD_arr, Bool.or_eq_false_iff] at hh
    obtain ⟨⟨h1, h2⟩, h3, h4⟩ := hh
    subst h1
    have hs' : s < T.length := by
      have : s ≠ T.length := by simpa using h3
      omega
    simp only [Bool.false_eq_true, if_false, beq_self_eq_true, if_true]
    rw [drop_at hs']
    conv => lhs; unfold indL
    have : (bol T s && T.getD s 0 != 10) = true := by
      have q : bol T s = true := h2
      have q2 : (T.getD s 0 != 10) = true := by simp only [bne, h4, Bool.not_false]
      rw [q, q2]; rfl
    rw [this]
    rfl
  · refine ⟨d, by omega, ?_⟩
    refine SubN.rel (nx := fun s must => nxtF (hitI T.toArray) (fun a => a) (T.length + 1 - s) s must) (fun s must hs => ?_) ?_
    · have := ends_I T.toArray s must (by simpa using hs) (by simpa using hz)
      rw [hsz] at this
      exact this
    · simpa [bol] using h
theorem crlf_hit1 {T : List Nat} {s : Nat} (hs : s < T.length) (hc : T.getD s 0 = 10 ∨ T.getD s 0 = 13) (hn : ¬ (T.getD s 0 = 13 ∧ s + 1 < T.length ∧ T.getD (s + 1) 0 = 10)) : crlfL (T.drop s) = 13 :: 10 :: crlfL (T.drop (s + 1)) := by
  have hb : (T.getD s 0 == 10 || T.getD s 0 == 13) = true := by simpa using hc
  rw [drop_at hs]
  by_cases h1 : s + 1 < T.length
  · rw [drop_at h1]
    rw [crlfL_two, if_neg, if_pos hb]
    · intro q
      simp only [Bool.and_eq_true, beq_iff_eq] at q
      exact hn ⟨q.1, h1, q.2⟩
  · rw [List.drop_eq_nil_of_le (by omega : T.length ≤ s + 1)]
    rw [crlfL_one, if_pos hb, crlfL_nil]
theorem crlf_hit2 {T : List Nat} {s : Nat} (h : T.getD s 0 = 13 ∧ s + 1 < T.length ∧ T.getD (s + 1) 0 = 10) : crlfL (T.drop s) = 13 :: 10 :: crlfL (T.drop (s + 2)) := by
  rw [drop_at (by omega : s < T.length), drop_at h.2.1, h.1, h.2.2, crlfL_two]
  rfl
theorem crlf_miss {T : List Nat} {s : Nat} (hs : s < T.length) (hc : ¬ (T.getD s 0 = 10 ∨ T.getD s 0 = 13)) : crlfL (T.drop s) = T.getD s 0 :: crlfL (T.drop (s + 1)) := by
  have hb : (T.getD s 0 == 10 || T.getD s 0 == 13) = false := by
    cases q : (T.getD s 0 == 10 || T.getD s 0 == 13) with
    | false => rfl
    | true => exact absurd (by simpa using q) hc
  have hb2 : (T.getD s 0 == 13) = false := by
    cases q : T.getD s 0 == 13 with
    | false => rfl
    | true => rw [q, Bool.or_true] at hb; cases hb
  rw [drop_at hs]
  by_cases h1 : s + 1 < T.length
  · rw [drop_at h1]
    rw [crlfL_two, hb, hb2]
    rfl
  · rw [List.drop_eq_nil_of_le (by omega : T.length ≤ s + 1)]
    rw [crlfL_one, hb, crlfL_nil]
    rfl
theorem subC (T : List Nat) : ∃ d, d ≤ 2 * T.length + 2 ∧ SubRel codeC T.toArray [13, 10] d 0 false 0 (crlfL T) := by
  have hsz : T.toArray.size = T.length := by simp
  refine Exists.elim (sub_gen (T := T) (repl := [13, 10]) (hit := hitC T.toArray) (e := endC T.toArray) (fun s _ => crlfL (T.drop s)) ?_ ?_ ?_ ?_ (2 * T.length + 1) 0 false 0 (Nat.le_refl _) (Nat.zero_le _) (by simp)) (fun d ⟨hd, h⟩ => ?_)
  · intro s must hs hh
    simp only [hitC, Bool.and_eq_true, decide_eq_true_eq, hsz] at hh
    unfold endC
    split
    · rename_i q
      rw [hsz] at q
      exact ⟨by omega, by omega, fun q => by omega⟩
    · exact ⟨by omega, by omega, fun q => by omega⟩
  · intro s must hh hs
    simp only [hitC, hsz, decide_eq_true hs, Bool.true_and, getD_arr] at hh
    exact crlf_miss hs fun q => by
      have : (T.getD s 0 == 10 || T.getD s 0 == 13) = true := by simpa using q
      rw [this] at hh; cases hh
  · intro must hh
    rw [List.drop_length]
    rfl
  · intro s must hs hh
    simp only [hitC, Bool.and_eq_true, decide_eq_true_eq, getD_arr, hsz] at hh
    obtain ⟨h1, h2⟩ := hh
    have hc : T.getD s 0 = 10 ∨ T.getD s 0 = 13 := by simpa using h2
    unfold endC
    rw [getD_arr, getD_arr, hsz]
    split
    · rename_i q
      exact crlf_hit2 q
    · rename_i q
      exact crlf_hit1 h1 hc q
  · refine ⟨d, by omega, ?_⟩
    refine SubN.rel (nx := fun s must => nxtF (hitC T.toArray) (endC T.toArray) (T.length + 1 - s) s must) (fun s must hs => ?_) ?_
    · have := ends_C T.toArray s must (by simpa using hs)
      rw [hsz] at this
      exact this
    · simpa using h
end

end
theorem marks_Quote : True := by
  w_on
  w_top off
  k_with_none
  trivial
section
theorem flat_repl : ∀ k : Nat, (List.replicate k [32]).flatten = List.replicate k 32
  | 0 => rfl
  | k + 1 => by rw [List.replicate_succ, List.flatten_cons, flat_repl k, List.replicate_succ]; rfl
theorem crlfL_len : ∀ T : List Nat, (crlfL T).length ≤ 2 * T.length
  | [] => by rw [crlfL_nil]; simp
  | [c] => by rw [crlfL_one]; split <;> simp
  | c :: d :: r => by
    have h1 := crlfL_len r
    have h2 := crlfL_len (d :: r)
    rw [crlfL_two]
    split
    · simp only [List.length_cons]; omega
    · split <;> simp only [List.length_cons] at h2 ⊢ <;> omega
theorem dotsL_len : ∀ (b : Bool) (T : List Nat), (dotsL b T).length ≤ 2 * T.length
  | _, [] => by simp [dotsL]
  | b, c :: r => by
    have h1 := dotsL_len (c == 10) r
    unfold dotsL
    split <;> simp only [List.length_append, List.length_cons, List.length_nil] <;> omega
theorem indL_len (k : Nat) : ∀ (b : Bool) (T : List Nat), (indL k b T).length ≤ (k + 1) * T.length
  | _, [] => by simp [indL]
  | b, c :: r => by
    have h1 := indL_len k (c == 10) r
    unfold indL
    rw [List.length_cons, Nat.mul_succ]
    split <;> simp only [List.length_append, List.length_cons, List.length_nil, List.length_replicate] <;> omega
section
variable {prog : Program} {w : World} {A : Around} {E : Value → Shared → Prop} {s : Shared} {h h₀ : Heap} {L : Addr} {m : Str → Option Value} {news : List (Addr × Obj)}
theorem patI_of (X : (hd.heap_39 w.params).In h) : PatAt h 36 codeI := by
  refine ⟨⟨35, _, _, _, _, _, X 36 _ rfl, rfl, rfl, rfl, rfl, rfl, rfl, X 35 _ rfl, rfl, by simp [codeI, Builtin.Re.reRawOf]⟩⟩
theorem patD_of (X : (hd.heap_39 w.params).In h) : PatAt h 98 codeD := by
  refine ⟨⟨97, _, _, _, _, _, X 98 _ rfl, rfl, rfl, rfl, rfl, rfl, rfl, X 97 _ rfl, rfl, by simp [codeD, Builtin.Re.reRawOf]⟩⟩
theorem patC_of (X : (hd.heap_39 w.params).In h) : PatAt h 103 codeC := by
  refine ⟨⟨102, _, _, _, _, _, X 103 _ rfl, rfl, rfl, rfl, rfl, rfl, rfl, X 102 _ rfl, rfl, by simp [codeC, Builtin.Re.reRawOf]⟩⟩
theorem m_getSub {M : Model} {pat : Addr} {code : Array Nat} {pl : Sem Bool} {Q : Value × List Value → Shared → Prop} (P₀ : PatAt h₀ pat code) (F : Fr h₀ L s.heap m)
    (h : Q (.builtin "re.Pattern.sub", [.ref pat]) s) : wpAny M A (getMethod (.ref pat) "sub" pl) Q E s := by
  obtain ⟨ct, o, oc, vs, cv, n, h1, h2, h3, _⟩ := P₀.ex
  exact getMethod_builtin ⟨o, F.keep _ _ h1, h2⟩ attrs_pat slot_sub type_sub (fun a e => by cases e; exact ⟨o, F.keep _ _ h1, h3⟩) h
theorem fr_keeps {h' : Heap} (F : Fr h₀ L h m) (k : Keeps h h') : Fr h₀ L h' m := ⟨F.ns.keeps k, fun b o e => k _ _ (F.keep b o e), F.above⟩
theorem news_keeps {h' : Heap} (N : News h₀ L h news) (k : Keeps h h') : News h₀ L h' news := fun p hp => ⟨k _ _ (N p hp).1, (N p hp).2⟩
theorem m_sub {pat : Addr} {code : Array Nat} {T out : List Nat} {repl : Str} {rt tt : Tok} {Q : Value → Shared → Prop} (P₀ : PatAt h₀ pat code) (F : Fr h₀ L s.heap m) (N : News h₀ L s.heap news)
    (hS : ∃ d, d ≤ 400000 ∧ SubRel code T.toArray repl.cps.toList d 0 false 0 out) (hz : T.length ≤ 100000) (hb : repl.cps.contains 92 = false) (ho : out.length ≤ 1000000)
    (h : ∀ t' h' tk', Fr h₀ L h' m → News h₀ L h' news → Q (.str ⟨out.toArray⟩ t') { s with heap := h', toks := tk' }) :
    wpAny (model prog w) A (call (.builtin "re.Pattern.sub") [.ref pat, .str repl rt, .str ⟨T.toArray⟩ tt]) Q E s := by
  obtain ⟨d, hd, hS⟩ := hS
  exact wpAny_call (wp_sub (P₀.keeps F.keep) (by simpa using hz) hb hS hd ho fun t' h' tk' hk => h t' h' tk' (fr_keeps F hk) (news_keeps N hk))
end
section
variable {prog : Program} {w : World} {A : Around} {E : Value → Shared → Prop} {s : Shared}
theorem mul_int_str {x : Str} {t u : Tok} {k : Nat} {Q : Value → Shared → Prop} (hx : x.cps.size = 1) (hk1 : 1 ≤ k) (hk : k ≤ 1000) (h : ∀ t' tk', Q (.str ⟨((List.replicate k x.cps.toList).flatten).toArray⟩ t') { s with toks := tk' }) :
    wpAny (model prog w) A (binaryOp .Mult (.int (k : Int) u) (.str x t)) Q E s := by
  have hxl : x.length = 1 := hx
  refine lm_binaryOp_repeat_right (T := "str") (U := "int") (by decide) (fun s' => typeIs_int s' k u) (typeIs_str s x t) PySem.F.fills_int_mul noFill_str_mul PySem.F.slot_int_mul lm_noRepeat_int repeat_str PySem.F.slot_int_index.lookup ?_
  refine call_gives PySem.F.slot_int_mul (typeIs_int s k u) PySem.F.entry_int_mul (PySem.F.args_int_mul_2 _ _) (AutoIntG3.int___mul___int_str_0 (k : Int) u x t) ⟨rfl, typeIs_str s x t, ?_⟩
  refine call_gives PySem.F.slot_str_mul (typeIs_str s x t) PySem.F.entry_str_mul (PySem.F.args_str_mul_2 _ _) (gives_str_mul x k t u ?_ ?_ ?_) ?_
  · have h1 : ¬ ((k : Int) < -(2 ^ 63 : Int)) := by omega
    have h2 : ¬ ((k : Int) ≥ 2 ^ 63) := by omega
    rw [decide_eq_false h1, decide_eq_false h2]; rfl
  · intro h1 h2
    rw [hxl]
    have : ((2 : Int) ^ 63 - 1) / (k : Int) ≥ 1 := by
      apply Int.le_ediv_of_mul_le <;> omega
    omega
  · intro h1 h2
    unfold Builtin.Str.tooLong
    rw [hxl, sizeLine_eq]
    exact decide_eq_false (by simp; omega)
  · have hf : ∀ (n : Nat) (a : Array Nat), (List.replicate n x.cps).foldl (· ++ ·) a = a ++ ((List.replicate n x.cps.toList).flatten).toArray := by
      intro n
      induction n with
      | zero => intro a; simp
      | succ n ih =>
        intro a
        rw [List.replicate_succ, List.foldl_cons, ih, List.replicate_succ, List.flatten_cons]
        apply Array.toList_inj.mp
        simp
    rw [if_neg (by omega)]
    split
    · rename_i h1
      have hk1' : k = 1 := by
        simp only [Bool.or_eq_true, beq_iff_eq, hxl] at h1
        omega
      subst hk1'
      have : (⟨((List.replicate 1 x.cps.toList).flatten).toArray⟩ : Str) = x := by
        cases x; simp
      rw [this] at h
      exact h t s.toks
    · have e : (⟨(List.replicate (k : Int).toNat x.cps).foldl (· ++ ·) #[]⟩ : Str) = ⟨((List.replicate k x.cps.toList).flatten).toArray⟩ := by
        rw [Int.toNat_natCast, hf]
        simp
      rw [e]
      refine ⟨?_, h _ _⟩
      show ((List.replicate k x.cps.toList).flatten).toArray.size ≤ sizeLine
      rw [sizeLine_eq]
      simp [hx]
      omega
end
section
variable {prog : Program} {w : World} {s : Shared} {R : Result → Shared → Prop} {p : Program} {loose : List Str} {mean : ExcName → Option Value} {mg mb : Str → Option Value}
theorem quote_spec {dp un : Nat} {fr : Option (List Env)} {gd : Option (List Code)} {T : List Nat} {tt : Tok}
    (X : (hd.heap_39 w.params).In s.heap) (Tp : Top p loose mean mg mb s.heap) (hdp : dp + 5 < recursionLimit) (hz : T.length ≤ 4000)
    (h : ∀ t' h' tk', Keeps s.heap h' → R (.ok (.ret (.str ⟨(dotsL true (crlfL T)).toArray⟩ t'))) { s with heap := h', toks := tk' }) :
    codeAny (model prog w) (Ar dp un fr gd) (.call (.ref 110) ⟨[.str ⟨T.toArray⟩ tt], []⟩) R s := by
  have hfill : PySem.Challenge.rw_ty0019_01 = PySem.Challenge.rw_ty0019_01 := rfl
  revert hfill X
  k_fill
  intro X hfill
  clear hfill
  refine' enter_plain [] X Tp ?k6 ?k7 ?k8 ?k9 ?kB ?_ ?c5 ?c2 ?c3 ?c4
  (case k6 => k_is)
  (case k7 => k_is)
  (case k8 => show dp < recursionLimit; omega)
  (case k9 => exact BindsTo.of_eq rfl)
  (case c5 => decide)
  (case kB => exact locs rfl)
  (case c2 => exact rfl)
  (case c3 => exact rfl)
  (case c4 => exact rfl)
  intro L' h₁ F hk₁ hL
  try dsimp only
  change Fr s.heap _ _ _ at F
  have N : News s.heap L' h₁ [] := News.nil
  try k_fold
  k_with_none
  k_with "getMethod ref" => (with_unfolding_all first | refine m_getSub (patD_of X) (by assumption) ?_ | refine m_getSub (patC_of X) (by assumption) ?_)
  k_with "call builtin:re.Pattern.sub" => (refine hold_out ?_)
  walk_at "m steps"
  refine hold_intro ?_
  have l1 := crlfL_len T
  have l2 := dotsL_len true (crlfL T)
  refine m_sub (T := T) (out := crlfL T) (patC_of X) F N ?_ (by omega) (by decide +kernel) (by omega) ?_
  · obtain ⟨d, hd, hS⟩ := subC T
    exact ⟨d, by omega, hS⟩
  intro t2 h2 tk2 F2 N2
  try dsimp only
  walk_at "m steps"
  refine hold_intro ?_
  refine m_sub (T := crlfL T) (out := dotsL true (crlfL T)) (patD_of X) F2 N2 ?_ (by omega) (by decide +kernel) (by omega) ?_
  · obtain ⟨d, hd, hS⟩ := subD (crlfL T) (by omega)
    exact ⟨d, by omega, hS⟩
  intro t3 h3 tk3 F3 N3
  try dsimp only
  exact h _ _ _ F3.keep
theorem indent_spec {dp un : Nat} {fr : Option (List Env)} {gd : Option (List Code)} {T : List Nat} {tt : Tok} {k : Nat} {kt : Tok}
    (X : (hd.heap_39 w.params).In s.heap) (Tp : Top p loose mean mg mb s.heap) (hdp : dp + 5 < recursionLimit) (hz : T.length ≤ 4000) (hk1 : 1 ≤ k) (hk3 : k ≤ 3)
    (h : ∀ t' h' tk', Keeps s.heap h' → R (.ok (.ret (.str ⟨(indL k true T).toArray⟩ t'))) { s with heap := h', toks := tk' }) :
    codeAny (model prog w) (Ar dp un fr gd) (.call (.ref 44) ⟨[.str ⟨T.toArray⟩ tt, .int (k : Int) kt], []⟩) R s := by
  have hfill : PySem.Challenge.rw_ty0019_01 = PySem.Challenge.rw_ty0019_01 := rfl
  revert hfill X
  k_fill
  intro X hfill
  clear hfill
  refine' enter_plain [] X Tp ?k6 ?k7 ?k8 ?k9 ?kB ?_ ?c5 ?c2 ?c3 ?c4
  (case k6 => k_is)
  (case k7 => k_is)
  (case k8 => show dp < recursionLimit; omega)
  (case k9 => exact binds_K (by k_in) rfl (by k_is) rfl rfl rfl)
  (case c5 => decide)
  (case kB => exact locs rfl)
  (case c2 => exact rfl)
  (case c3 => exact rfl)
  (case c4 => exact rfl)
  intro L' h₁ F hk₁ hL
  try dsimp only
  change Fr s.heap _ _ _ at F
  have N : News s.heap L' h₁ [] := News.nil
  try k_fold
  k_with_none
  k_with "getMethod ref" => (with_unfolding_all refine m_getSub (patI_of X) (by assumption) ?_)
  k_with "call builtin:re.Pattern.sub" => (refine hold_out ?_)
  k_with "binaryOp Mult int str" => (refine hold_out ?_)
  walk_at "m steps"
  refine hold_intro ?_
  refine mul_int_str (by decide +kernel) hk1 (by omega) fun t1 tk1 => ?_
  have e32 : (List.replicate k (Str.ofString " ").cps.toList).flatten = List.replicate k 32 := by
    rw [show (Str.ofString " ").cps.toList = [32] by decide +kernel]
    exact flat_repl k
  rw [e32]
  try dsimp only
  walk_at "m steps"
  refine hold_intro ?_
  have l1 := indL_len k true T
  have l3 : (k + 1) * T.length ≤ 4 * T.length := Nat.mul_le_mul_right _ (by omega)
  refine m_sub (T := T) (out := indL k true T) (patI_of X) F N ?_ (by omega) ?_ (by omega) ?_
  · obtain ⟨d, hd, hS⟩ := subI k T (by omega)
    exact ⟨d, by omega, hS⟩
  · show (List.replicate k 32).toArray.contains 92 = false
    simp
  intro t3 h3 tk3 F3 N3
  try dsimp only
  exact h _ _ _ F3.keep
end

end
theorem marks_SetIn : True := by
  w_on
  w_top off
  k_with_none
  trivial
section
def setStep (k : Nat) (σ : List Int × Bool) (n : Int) : List Int × Bool :=
  ((if σ.2 && n != 10 then σ.1 ++ List.replicate k 32 else σ.1) ++ [n], n.fmod 64 == 10)
def setSt (k : Nat) (ns : List Int) : List Int × Bool := ns.foldl (setStep k) ([], true)
def setInL (k : Nat) (ns : List Int) : List Int := (setSt k ns).1
theorem setSt_succ {k : Nat} {ns : List Int} {i : Nat} {n : Int} {σ : List Int × Bool} (hn : ns[i]? = some n) (h : setSt k (ns.take i) = σ) : setSt k (ns.take (i + 1)) = setStep k σ n := by
  unfold setSt at h ⊢
  rw [List.take_add_one, hn, Option.toList_some, List.foldl_append, h]
  rfl
def SetJ (lt : Addr) (k : Nat) (kt : Tok) (ns : List Int) (i : Nat) (m : Str → Option Value) (nx : List (Addr × Obj)) : Prop :=
  ∃ (A : Array Value) (n' : Nat), nx = [(lt, listOf A n')] ∧ IntsAre A.toList (setSt k (ns.take i)).1 ∧ A.size ≤ 4 * i ∧
    m "told" = some (.ref lt) ∧ m "blanks" = some (.int (k : Int) kt) ∧ ∃ f : Bool, m "first" = some (.bool f) ∧ f = (setSt k (ns.take i)).2
section
variable {prog : Program} {w : World} {s : Shared} {R : Result → Shared → Prop} {p : Program} {loose : List Str} {mean : ExcName → Option Value} {mg mb : Str → Option Value}
theorem setIn_spec {dp un : Nat} {fr : Option (List Env)} {gd : Option (List Code)} {l : Addr} {vs : List Value} {ns : List Int} {k : Nat} {kt : Tok}
    (X : (hd.heap_39 w.params).In s.heap) (T : Top p loose mean mg mb s.heap) (hdp : dp + 5 < recursionLimit) (hun : un + 50 < cLine)
    (hl : s.heap.IsList l vs.toArray) (hi : IntsAre vs ns) (hn : ns.length ≤ 1000) (hk1 : 1 ≤ k) (hk3 : k ≤ 3)
    (h : ∀ l' h' tk, NewList s.heap h' l' (setInL k ns) → R (.ok (.ret (.ref l'))) { s with heap := h', toks := tk }) :
    codeAny (model prog w) (Ar dp un fr gd) (.call (.ref 141) ⟨[.ref l, .int (k : Int) kt], []⟩) R s := by
  have hfill : PySem.Challenge.rw_ty0019_01 = PySem.Challenge.rw_ty0019_01 := rfl
  revert hfill X
  k_fill
  intro X hfill
  clear hfill
  refine' enter_plain [] X T ?k6 ?k7 ?k8 ?k9 ?kB ?_ ?c5 ?c2 ?c3 ?c4
  (case k6 => k_is)
  (case k7 => k_is)
  (case k8 => show dp < recursionLimit; omega)
  (case k9 => exact BindsTo.of_eq rfl)
  (case c5 => decide)
  (case kB => exact locs rfl)
  (case c2 => exact rfl)
  (case c3 => exact rfl)
  (case c4 => exact rfl)
  intro L' h₁ F hk₁ hL
  try dsimp only
  change Fr s.heap _ _ _ at F
  have N : News s.heap L' h₁ [] := News.nil
  try k_fold
  k_with_none
  k_with "pyIter ref" => (refine hold_out ?_)
  k_with "InvEndN" => (refine Hold.out ?_)
  walk_at "m steps"
  refine hold_intro ?_
  rename_i lt _ _ _ _ F0 N0
  refine' iter_invN (SetJ lt k kt ns) ?k1 hl (by assumption) F0 N0 ?k2 ?turn ?done
  (case k1 => exact rfl)
  (case k2 => exact ⟨_, _, rfl, .nil, by simp, rfl, rfl, _, rfl, rfl⟩)
  case turn =>
    rintro i n t m₁ nx₁ hh tk own hn _ hoff ⟨A, n', rfl, hA, hsz, h1, h2, first, h3, h4⟩ F₁ N₁
    generalize hσ : setSt k (ns.take i) = σ at hA h4
    obtain ⟨told, _⟩ := σ
    dsimp only at hA h4
    subst h4
    obtain ⟨u, rfl⟩ := frame3 h1 h2 h3
    clear h1 h2 h3
    have hi' : i < ns.length := (List.getElem?_eq_some_iff.mp hn).1
    have hsz' : A.size ≤ 3996 := by omega
    dsimp only [List.map_cons, List.map_nil, List.cons_append, List.nil_append] at F₁ N₁ hoff ⊢
    try k_fold
    walk_at "m steps"
    all_goals (
      refine Hold.intro ?_
      refine' endN_one ?kF ?kN ?km ?ko ?kj
      (case kF => assumption)
      (case kN => assumption)
      (case km => k_mem)
      (case ko => intro p hp; k_ownIn)
      (case kj =>
        refine ⟨_, _, rfl, ?e1, ?e2, rfl, rfl, _, rfl, ?e4⟩
        (case e2 => walk_at "m size")
        all_goals rw [setSt_succ hn hσ]
        (case e1 =>
          refine' ints_eq ?a1 ?a2
          (case a1 => walk_at "m ints")
          (case a2 => first | (simp [setStep, *]; done) | (exfalso; simp_all; done)))
        (case e4 => first | (simp [setStep, *]; done) | (exfalso; simp_all; done))))
  case done =>
    rintro m₁ nx₁ hh tk ⟨A, n', rfl, hA, hsz, h1, h2, first, h3, h4⟩ F₁ N₁
    rw [List.take_length] at hA h4
    obtain ⟨u, rfl⟩ := frame3 h1 h2 h3
    clear h1 h2 h3
    dsimp only
    try k_fold
    walk_at "m steps"
    all_goals exact h _ _ _ (NewList.of (by assumption) (by assumption) (by k_mem) hA)
end

end
section
section
variable {prog : Program} {w : World} {A : Around} {E : Value → Shared → Prop} {s : Shared}
theorem fdiv_nat (x y : Nat) : (x : Int).fdiv (y : Int) = ((x / y : Nat) : Int) := by
  rw [Int.fdiv_eq_ediv_of_nonneg _ (by omega)]; rfl
theorem pow_nat (k : Nat) : (2 : Int) ^ k = ((2 ^ k : Nat) : Int) := by simp
theorem m_rshift {a b : Int} {x k : Nat} {t u : Tok} {Q : Value → Shared → Prop} (ea : a = x) (eb : b = k) (h : Q (.int ((x / 2 ^ k : Nat) : Int) s.toks) { s with toks := s.toks + 1 }) : wpAny (model prog w) A (binaryOp .RShift (.int a t) (.int b u)) Q E s := by
  subst ea eb
  refine PyProof.Rows.rshift_int (by omega) ?_
  rw [Int.toNat_natCast, pow_nat, fdiv_nat]
  exact h
theorem intBits_le {x n : Nat} (h : x < 2 ^ n) : Builtin.Int.intBits (x : Int) ≤ n := by
  unfold Builtin.Int.intBits
  split
  · omega
  · rename_i h0
    have hx : x ≠ 0 := by intro q; subst q; simp at h0
    have : Nat.log2 x < n := (Nat.log2_lt hx).mpr h
    simp only [Int.natAbs_natCast]
    omega
theorem m_lshift {a b : Int} {x k : Nat} {t u : Tok} {Q : Value → Shared → Prop} (ea : a = x) (eb : b = k) (hx : x < 2 ^ 100000) (hk : k ≤ 100000) (h : Q (.int ((x * 2 ^ k : Nat) : Int) s.toks) { s with toks := s.toks + 1 }) : wpAny (model prog w) A (binaryOp .LShift (.int a t) (.int b u)) Q E s := by
  subst ea eb
  have := intBits_le hx
  refine PyProof.Rows.lshift_int (by omega) (by omega) ?_
  rw [Int.toNat_natCast, pow_nat, ← Int.natCast_mul]
  exact h
theorem bitAnd_nat (x y : Nat) : Builtin.bitAnd (x : Int) (y : Int) = ((x &&& y : Nat) : Int) := by rfl
theorem and_high (x k : Nat) : x &&& (x / 2 ^ k * 2 ^ k) = x / 2 ^ k * 2 ^ k := by
  rw [← Nat.shiftRight_eq_div_pow, ← Nat.shiftLeft_eq]
  apply Nat.eq_of_testBit_eq
  intro i
  rw [Nat.testBit_and, Nat.testBit_shiftLeft, Nat.testBit_shiftRight]
  by_cases h : k ≤ i
  · rw [show k + (i - k) = i by omega]; simp [h]
  · simp [h]
theorem m_xorLow {a b : Int} {x k : Nat} {t u : Tok} {Q : Value → Shared → Prop} (ea : a = x) (eb : b = ((x / 2 ^ k * 2 ^ k : Nat) : Int)) (h : Q (.int ((x % 2 ^ k : Nat) : Int) s.toks) { s with toks := s.toks + 1 }) : wpAny (model prog w) A (binaryOp .BitXor (.int a t) (.int b u)) Q E s := by
  subst ea eb
  refine PyProof.Rows.xor_int ?_
  have e : Builtin.bitXor (x : Int) ((x / 2 ^ k * 2 ^ k : Nat) : Int) = ((x % 2 ^ k : Nat) : Int) := by
    rw [bitXor_and, bitAnd_nat, and_high]
    have := Nat.div_add_mod x (2 ^ k)
    rw [Nat.mul_comm] at this
    omega
  rw [e]
  exact h
theorem m_mulN {a b : Int} {x y : Nat} {t u : Tok} {Q : Value → Shared → Prop} (ea : a = x) (eb : b = y) (hx : x < 2 ^ 60) (h : Q (.int ((x * y : Nat) : Int) s.toks) { s with toks := s.toks + 1 }) : wpAny (model prog w) A (binaryOp .Mult (.int a t) (.int b u)) Q E s := by
  subst ea eb
  refine PyProof.Rows.mul_int ?_ (IntMulOk.of_left (Nat.le_trans (intBits_le hx) (by decide)))
  rw [← Int.natCast_mul]
  exact h
theorem m_fdivN {a b : Int} {x y : Nat} {t u : Tok} {Q : Value → Shared → Prop} (ea : a = x) (eb : b = y) (hy : 1 ≤ y) (hy2 : y < 1073741824) (h : Q (.int ((x / y : Nat) : Int) s.toks) { s with toks := s.toks + 1 }) : wpAny (model prog w) A (binaryOp .FloorDiv (.int a t) (.int b u)) Q E s := by
  subst ea eb
  refine PyProof.Rows.floordiv_int (b := (y : Int)) (by omega) ?_ (.inl (PyProof.noPylong_small (by simpa using hy2)))
  rw [fdiv_nat]
  exact h
end

end
theorem marks_Inner : True := by
  w_on
  w_top off
  k_with_none
  trivial
section
section
variable {prog : Program} {w : World} {A : Around} {s : Shared} {R : Result → Shared → Prop} {name qual : Str} {params : Arguments} {body : List Stmt} {scope : Scope} {cl : List (Str × Addr)} {dV kV doc pm cdv ct oc ctv : Value} {an od : Option Addr} {osl : Array (Option Value)} {f c' : Addr} {args : Args} {binds : List (Str × Value)}
  {p : Program} {loose : List Str} {mean : ExcName → Option Value} {mg mb : Str → Option Value}
/-- a def made by a call, entered -/
theorem enter_clos (hid : List Addr) (T : Top p loose mean mg mb s.heap) (ho : s.heap.get? f = some (fnMade name qual params body scope cl doc pm c' ctv))
    (hcd : s.heap.CodeRec (.ref c') qual) (hroom : A.depth < recursionLimit)
    (hbind : BindsTo s (fnX name qual params body scope cl .none .none doc pm none (.ref c') ctv) args binds) (hloc : ∀ y ∈ binds, scope.names.lookup y.1 = some .local)
    (h : ∀ L' h₁, Fr (hideAll s.heap hid) L' h₁ (fun y => binds.reverse.lookup y) → Keeps s.heap h₁ → L' = s.heap.objs.size →
      wpAny (model prog w) (A.deeper (envX qual scope L' f (.ref c') cl)) (execs body (envX qual scope L' f (.ref c') cl))
        (fun fl s' => R (.ok (.ret (match fl with | .ret v => v | _ => .none))) s')
        (fun e s' => wpAny (model prog w) (A.deeper (envX qual scope L' f (.ref c') cl)) (leaving (envX qual scope L' f (.ref c') cl) e) (fun _ s'' => R (.error e) s'') (fun e' s'' => R (.error e') s'') s')
        { s with heap := h₁, toks := s.toks + binds.length })
    (hcell : ∀ x ∈ scope.names, x.2 ≠ .cell) (hco : scope.isCoroutine = false := by rfl) (hgen : scope.isGenerator = false := by rfl) (hk : scope.kind = .function := by rfl) :
    codeAny (model prog w) A (.call (.ref f) args) R s := by
  refine codeAny_call_def (fd := fnX name qual params body scope cl .none .none doc pm none (.ref c') ctv) (body := body) (binds := binds) hroom ho rfl T.nolimit hcd rfl hbind hcell hloc (fun h₁ hns hk₁ => ?_) hco hgen hk
  exact h s.heap.objs.size h₁ ⟨hns, fun b o e => hk₁ b o (of_hideAll _ e), Nat.le_of_eq (hideAll_size _ _)⟩ hk₁ rfl
/-- a def of the top whose names are captured, entered -/
theorem enter_cells (hid : List Addr) (X : (hd.heap_39 w.params).In s.heap) (T : Top p loose mean mg mb s.heap)
    (ho : (hd.heap_39 w.params).lookup f = some ⟨oc, od, .func (fnX name qual params body scope [] dV kV doc pm an cdv ct), osl⟩)
    (hcd : codeIn (hd.heap_39 w.params) cdv qual = true) (hroom : A.depth < recursionLimit)
    (hbind : BindsTo s (fnX name qual params body scope [] dV kV doc pm an cdv ct) args binds)
    (hkind : (binds.all fun y => scope.names.lookup y.1 == some .local || scope.names.lookup y.1 == some .cell) = true)
    (hnd : ((cellsFrom 0 scope.names []).map (·.1)).Nodup)
    (h : ∀ L' h₁ tk cells, Fr (hideAll s.heap hid) L' h₁ (bindL (envOfC qual scope L' f cdv).kindOf binds fun _ => none) → (∀ p ∈ cells, h₁.get? p.1 = some p.2 ∧ p.1 ≠ L' ∧ s.heap.get? p.1 = none) →
      CellsAre (bindC (envOfC qual scope L' f cdv).kindOf binds fun _ => none) (cellsFrom (L' + 1) scope.names []) cells → Keeps s.heap h₁ → L' = s.heap.objs.size →
      wpAny (model prog w) (A.deeper (envOfC qual scope L' f cdv)) (execs body (envOfC qual scope L' f cdv))
        (fun fl s' => R (.ok (.ret (match fl with | .ret v => v | _ => .none))) s')
        (fun e s' => wpAny (model prog w) (A.deeper (envOfC qual scope L' f cdv)) (leaving (envOfC qual scope L' f cdv) e) (fun _ s'' => R (.error e) s'') (fun e' s'' => R (.error e') s'') s')
        { s with heap := h₁, toks := tk })
    (hco : scope.isCoroutine = false := by rfl) (hgen : scope.isGenerator = false := by rfl) (hk : scope.kind = .function := by rfl) :
    codeAny (model prog w) A (.call (.ref f) args) R s := by
  refine codeAny_call_function hroom (X _ _ ho) rfl hco hgen rfl (codeRec_of X hcd) (hbind _ _ _ _ ?_)
  refine wpAny_newFunctionEnv_cells hk (kindsX hkind _) fun env' he s' x => ?_
  subst he
  refine ⟨(T.nolimit).keeps x.toInCall.keep, codeAny_func ?_⟩
  obtain ⟨h₁, tk, rfl, _⟩ := x.done
  have hk₁ := x.toInCall.keep
  obtain ⟨cells, NC, Y⟩ := Cl.news (h₀ := s.heap) (Nat.le_refl _) fun n c hm => ⟨x.cell n c (lookup_of_mem_nodup (cellsFrom_names scope.names 0 (s.heap.objs.size + 1) [] [] rfl ▸ hnd) hm), x.above n c hm⟩
  exact h s.heap.objs.size h₁ tk cells ⟨x.toInCall.ns, fun b o e => hk₁ b o (of_hideAll _ e), Nat.le_of_eq (hideAll_size _ _)⟩ NC Y hk₁ rfl
end
/-- x's figures to the base 2^n, the lowest first, k of them -/
def digN (n : Nat) : Nat → Nat → List Nat
  | 0, _ => []
  | k + 1, x => x % 2 ^ n :: digN n k (x / 2 ^ n)
theorem digN_succ (n k x : Nat) : digN n (k + 1) x = x % 2 ^ n :: digN n k (x / 2 ^ n) := rfl
theorem digN_length (n : Nat) : ∀ k x, (digN n k x).length = k
  | 0, _ => rfl
  | k + 1, x => by unfold digN; rw [List.length_cons, digN_length n k]
theorem digN_add (n : Nat) : ∀ a b x, digN n (a + b) x = digN n a (x % 2 ^ (a * n)) ++ digN n b (x / 2 ^ (a * n))
  | 0, b, x => by simp [digN]
  | a + 1, b, x => by
    rw [show a + 1 + b = (a + b) + 1 by omega, digN_succ, digN_succ, digN_add n a b]
    have h1 : x % 2 ^ ((a + 1) * n) % 2 ^ n = x % 2 ^ n := by
      apply Nat.mod_mod_of_dvd
      exact Nat.pow_dvd_pow 2 (by rw [Nat.succ_mul]; omega)
    have h2 : x % 2 ^ ((a + 1) * n) / 2 ^ n = x / 2 ^ n % 2 ^ (a * n) := by
      rw [show (a + 1) * n = n + a * n by rw [Nat.succ_mul]; omega, Nat.pow_add, Nat.mod_mul_right_div_self]
    have h3 : x / 2 ^ ((a + 1) * n) = x / 2 ^ n / 2 ^ (a * n) := by
      rw [Nat.div_div_eq_div_mul, ← Nat.pow_add, show n + a * n = (a + 1) * n by rw [Nat.succ_mul]; omega]
    rw [h1, h2, h3]
    rfl
theorem xor_low (x k : Nat) : x ^^^ ((x >>> k) <<< k) = x % 2 ^ k := by
  apply Nat.eq_of_testBit_eq
  intro i
  rw [Nat.testBit_xor, Nat.testBit_shiftLeft, Nat.testBit_shiftRight, Nat.testBit_mod_two_pow]
  by_cases h : k ≤ i
  · rw [show k + (i - k) = i by omega]
    simp [h, Nat.not_lt.mpr h]
  · simp [h, Nat.lt_of_not_le h]
/-- a list with its items from a on replaced by others -/
def putAt (ds : List Int) (a : Nat) (xs : List Int) : List Int := ds.take a ++ xs ++ ds.drop (a + xs.length)
theorem putAt_one {ds : List Int} {a : Nat} {x : Int} (h : a < ds.length) : ds.set a x = putAt ds a [x] := by
  rw [List.set_eq_take_append_cons_drop, if_pos h]
  simp [putAt]
theorem putAt_length {ds : List Int} {a : Nat} {xs : List Int} (h : a + xs.length ≤ ds.length) : (putAt ds a xs).length = ds.length := by
  unfold putAt
  simp only [List.length_append, List.length_take, List.length_drop]
  omega
theorem putAt_two {ds : List Int} {a : Nat} {xs ys : List Int} (h : a + xs.length + ys.length ≤ ds.length) : putAt (putAt ds a xs) (a + xs.length) ys = putAt ds a (xs ++ ys) := by
  unfold putAt
  have e1 : (ds.take a ++ xs ++ ds.drop (a + xs.length)).take (a + xs.length) = ds.take a ++ xs := by
    rw [List.take_append_of_le_length (by simp; omega)]
    exact List.take_of_length_le (by simp; omega)
  have e2 : (ds.take a ++ xs ++ ds.drop (a + xs.length)).drop (a + xs.length + ys.length) = ds.drop (a + (xs ++ ys).length) := by
    rw [List.drop_append]
    have : (ds.take a ++ xs).length = a + xs.length := by simp; omega
    rw [this, List.drop_eq_nil_of_le (by omega), List.nil_append, List.drop_drop]
    congr 1
    simp
    omega
  rw [e1, e2]
  simp [List.append_assoc]
section
variable {prog : Program} {w : World} {p : Program} {loose : List Str} {mean : ExcName → Option Value} {mg mb : Str → Option Value}
theorem use_lookup {K : Frag} {a : Addr} {o v : Obj} {P : Prop} (e : K.lookup a = some v) (hb : K.lookup a = some o) (h : v = o → P) : P := h (Option.some.inj (e.symm.trans hb))
theorem news_cons {g h : Heap} {L a : Addr} {o : Obj} {r : List (Addr × Obj)} (x : h.get? a = some o ∧ a ≠ L ∧ g.get? a = none) (N : News g L h r) : News g L h ((a, o) :: r) := fun p hp => by
  rcases List.mem_cons.mp hp with rfl | hp
  · exact x
  · exact N p hp
theorem keeps_led {g h h' : Heap} {L ad : Addr} {m : Str → Option Value} {x : Obj} {rest : List (Addr × Obj)} (F' : Fr g L h' m) (N' : News g L h' ((ad, x) :: rest)) (hr : ∀ p ∈ rest, h.get? p.1 = some p.2)
    (hg : ∀ b o, b ≠ ad → (∀ p ∈ rest, b ≠ p.1) → h.get? b = some o → g.get? b = some o) : ∀ b o, b ≠ ad → h.get? b = some o → h'.get? b = some o := by
  intro b o hb e
  by_cases q : ∃ p ∈ rest, b = p.1
  · obtain ⟨p, hp, rfl⟩ := q
    have := hr p hp
    rw [this] at e
    cases e
    exact (N' p (.tail _ hp)).1
  · exact F'.keep b o (hg b o hb (fun p hp q' => q ⟨p, hp, q'⟩) e)
theorem led_after {g h h' : Heap} {L ad : Addr} {m : Str → Option Value} {x x' : Obj} {rest : List (Addr × Obj)} (F : Fr g L h m) (N : News g L h ((ad, x) :: rest)) (hne : ∀ b ∈ rest.map (·.1), b ≠ ad) (hk : ∀ b o, b ≠ ad → h.get? b = some o → h'.get? b = some o)
    (hl : h'.get? ad = some x') : Fr g L h' m ∧ News g L h' ((ad, x') :: rest) := by
  have n0 := N _ (.head _)
  refine ⟨⟨F.ns.extBut hk (Ne.symm n0.2.1), fun b o e => hk b o (fun q => ?_) (F.keep b o e), F.above⟩, fun p hp => ?_⟩
  · rw [q, n0.2.2] at e; cases e
  · rcases List.mem_cons.mp hp with rfl | hp
    · exact ⟨hl, n0.2⟩
    · have n1 := N p (.tail _ hp)
      exact ⟨hk _ _ (hne p.1 (List.mem_map_of_mem hp)) n1.1, n1.2⟩
theorem fa_nil {h : Heap} : ∀ p ∈ ([] : List (Addr × Obj)), h.get? p.1 = some p.2 := fun _ hp => nomatch hp
theorem fa_cons {h : Heap} {a : Addr} {o : Obj} {r : List (Addr × Obj)} (x : h.get? a = some o) (N : ∀ p ∈ r, h.get? p.1 = some p.2) : ∀ p ∈ (a, o) :: r, h.get? p.1 = some p.2 := fun p hp => by
  rcases List.mem_cons.mp hp with rfl | hp
  · exact x
  · exact N p hp
/-- what the inner def of _int2digits wants of the heap -/
structure InnerAt (h : Heap) (fn : Obj) (qual : Str) (fI c' cA cI cN ad : Addr) (n : Nat) : Prop where
  fn : h.get? fI = some fn
  code : h.CodeRec (.ref c') qual
  cells : ∃ oA oI oN tn, h.get? cA = some oA ∧ oA.data = .cell (some (.ref ad)) ∧ h.get? cI = some oI ∧ oI.data = .cell (some (.ref fI)) ∧ h.get? cN = some oN ∧ oN.data = .cell (some (.int (n : Int) tn))
theorem InnerAt.keeps {h h' : Heap} {fn : Obj} {qual : Str} {fI c' cA cI cN ad : Addr} {n : Nat} (x : InnerAt h fn qual fI c' cA cI cN ad n) (hfn : fn.cls = .type "function") (hl : ∃ its k, h.get? ad = some (listOf its k)) (k : ∀ b o, b ≠ ad → h.get? b = some o → h'.get? b = some o) (hc : c' ≠ ad) : InnerAt h' fn qual fI c' cA cI cN ad n := by
  obtain ⟨its, kk, hl⟩ := hl
  obtain ⟨oA, oI, oN, tn, a1, a2, b1, b2, c1, c2⟩ := x.cells
  have ne : ∀ {b : Addr} {o : Obj} {v : Option Value}, h.get? b = some o → o.data = .cell v → b ≠ ad := fun e d q => by
    rw [q, hl] at e; cases e; cases d
  refine ⟨k _ _ (fun q => ?_) x.fn, ?_, oA, oI, oN, tn, k _ _ (ne a1 a2) a1, a2, k _ _ (ne b1 b2) b1, b2, k _ _ (ne c1 c2) c1, c2⟩
  · have e := x.fn
    rw [q, hl] at e
    cases e
    exact absurd hfn (by simp)
  · obtain ⟨c₂, oc, vs, t, e, g1, g2, g3⟩ := x.code
    cases e
    exact ⟨_, oc, vs, t, rfl, k _ _ hc g1, g2, g3⟩
set_option hygiene false in
theorem inner_spec {nm ql inm : Str} {pr ipar : Arguments} {s1 : Stmt} {rest ibody : List Stmt} {dl : List Expr} {rt : Option Expr} {isc sc : Scope} {ts : Option Scope} {ib : Str} {ip : Pos} {dV kV doc pm cdv ct oc : Value} {an od : Option Addr} {osl : Array (Option Value)} {tp : _}
    (hb : (hd.heap_39 w.params).lookup 65 = some ⟨oc, od, .func (fnX nm ql pr (s1 :: .FunctionDef inm ipar ibody dl rt tp isc ts ib ip :: rest) sc [] dV kV doc pm an cdv ct), osl⟩)
    {idoc ipm ctv : Value} {fI c' cA cI cN ad : Addr} {n : Nat} (hn1 : 1 ≤ n) (hn2 : n ≤ 200) {qual : Str} (hcc : c' ≠ ad)
    {h00 : Heap} (X0 : (hd.heap_39 w.params).In h00) (T0 : Top p loose mean mg mb h00) (C0 : CodeHd h00 64 60) (hfresh : ∀ b ∈ [ad, cA, cI, cN, fI], h00.get? b = none) :
    ∀ (d x L R : Nat) (dp un : Nat) (fr : Option (List Env)) (gd : Option (List Code)) (s : Shared) (Rr : Result → Shared → Prop) (tx tl tr : Tok) (vs : List Value) (ds : List Int) (k : Nat),
      R - L ≤ d → L < R → R ≤ 40 → x < 2 ^ ((R - L) * n) → Keeps h00 s.heap →
      InnerAt s.heap (fnMade inm qual ipar ibody isc [("n", cN), ("inner", cI), ("a_digits", cA)] idoc ipm c' ctv) qual fI c' cA cI cN ad n →
      s.heap.get? ad = some (listOf vs.toArray k) → IntsAre vs ds → R ≤ ds.length → ds.length ≤ 40 → dp + 2 * d + 5 < recursionLimit →
      (∀ h' tk vs', (∀ b o, b ≠ ad → s.heap.get? b = some o → h'.get? b = some o) → h'.get? ad = some (listOf (List.toArray vs') k) → IntsAre vs' (putAt ds L ((digN n (R - L) x).map Int.ofNat)) → Rr (.ok (.ret .none)) { s with heap := h', toks := tk }) →
      codeAny (model prog w) (Ar dp un fr gd) (.call (.ref fI) ⟨[.int (x : Int) tx, .int (L : Int) tl, .int (R : Int) tr], []⟩) Rr s := by
  have hfill : PySem.Challenge.rw_ty0019_01 = PySem.Challenge.rw_ty0019_01 := rfl
  revert hfill X0
  k_fill
  intro X0 hfill
  clear hfill
  refine' use_lookup ?e hb ?_
  (case e => k_is)
  intro q
  cases q
  clear hb
  intro d
  induction d with
  | zero => intro x L R dp un fr gd s Rr tx tl tr vs ds k h1 h2; omega
  | succ d ih =>
    intro x L R dp un fr gd s Rr tx tl tr vs ds k h1 h2 hR40 hx hk0 I hl hi hRl hd40 hdp h
    have T := T0.keeps hk0
    have hin := I.cells
    obtain ⟨oA, oI, oN, tn, a1, a2, b1, b2, c1, c2⟩ := hin
    refine' enter_clos [ad, cA, cI, cN, fI] T I.fn I.code ?k8 ?k9 ?kB ?_ ?c5 ?c2 ?c3 ?c4
    (case k8 => show dp < recursionLimit; omega)
    (case k9 => exact BindsTo.of_eq rfl)
    (case c5 => decide)
    (case kB => exact locs rfl)
    (case c2 => exact rfl)
    (case c3 => exact rfl)
    (case c4 => exact rfl)
    intro L' h₁ F hk₁ hL
    try dsimp only at F ⊢
    have lt : ∀ {b : Addr} {o : Obj}, s.heap.get? b = some o → b ≠ L' := fun e q => Nat.lt_irrefl _ (by have := Heap.lt_size e; rw [q, hL] at this; exact this)
    have mem : ∀ {b : Addr} {o : Obj}, s.heap.get? b = some o → b ∈ [ad, cA, cI, cN, fI] → h₁.get? b = some o ∧ b ≠ L' ∧ (hideAll s.heap [ad, cA, cI, cN, fI]).get? b = none := fun e m => ⟨hk₁ _ _ e, lt e, hideAll_none _ m⟩
    have N := news_cons (mem hl (by simp)) (news_cons (mem a1 (by simp)) (news_cons (mem b1 (by simp)) (news_cons (mem c1 (by simp)) (news_cons (mem I.fn (by simp)) News.nil))))
    clear mem
    have hr := fa_cons a1 (fa_cons b1 (fa_cons c1 (fa_cons I.fn fa_nil)))
    have hgg : ∀ b o, b ≠ ad → b ≠ cA → b ≠ cI → b ≠ cN → b ≠ fI → s.heap.get? b = some o → (hideAll s.heap [ad, cA, cI, cN, fI]).get? b = some o := by
      intro b o q1 q2 q3 q4 q5 e
      refine hideAll_get _ e fun hm => ?_
      simp only [List.mem_cons, List.not_mem_nil, or_false] at hm
      rcases hm with q | q | q | q | q
      · exact q1 q
      · exact q2 q
      · exact q3 q
      · exact q4 q
      · exact q5 q
    have keepsOf : ∀ {h' : Heap} {m : Str → Option Value} {x : Obj} {rest : List (Addr × Obj)}, Fr (hideAll s.heap [ad, cA, cI, cN, fI]) L' h' m → News (hideAll s.heap [ad, cA, cI, cN, fI]) L' h' ((ad, x) :: rest) → (∀ p ∈ rest, s.heap.get? p.1 = some p.2) → rest.map (·.1) = [cA, cI, cN, fI] → ∀ b o, b ≠ ad → s.heap.get? b = some o → h'.get? b = some o := by
      intro h' m x rest F' N' hr hrm
      refine keeps_led F' N' hr fun b o hb hn e => hgg b o hb ?_ ?_ ?_ ?_ e
      all_goals (
        intro q
        have hm : b ∈ rest.map (·.1) := by rw [hrm, q]; simp
        obtain ⟨p, hp, hq⟩ := List.mem_map.mp hm
        exact hn p hp hq.symm)
    clear hgg
    have kg : Keeps h00 (hideAll s.heap [ad, cA, cI, cN, fI]) := fun b o e => hideAll_get _ (hk0 _ _ e) fun q => by rw [hfresh b q] at e; cases e
    have X := X0.keeps kg
    have Tg := T0.keeps kg
    have Cg := C0.keeps kg
    have ne : ∀ {b : Addr} {o : Obj} {v : Option Value}, s.heap.get? b = some o → o.data = .cell v → @Ne Nat b ad := fun e d q => by
      have q' : _ = ad := q
      rw [q', hl] at e; cases e; cases d
    have neA := ne a1 a2
    have neI := ne b1 b2
    have neN := ne c1 c2
    have neF : @Ne Nat fI ad := fun q => by
      have q' : fI = ad := q
      have e := I.fn
      rw [q', hl] at e
      have e2 := congrArg (Option.map Obj.cls) e
      simp at e2
    generalize hideAll s.heap [ad, cA, cI, cN, fI] = g at F N X Tg Cg kg keepsOf
    k_with_none
    k_with "m rshift" => (refine hold_out ?_)
    k_with "m lshift" => (refine hold_out ?_)
    k_with "m xor" => (refine hold_out ?_)
    k_with "m mul" => (refine hold_out ?_)
    k_with "m call" => (refine hold_out ?_)
    try k_fold
    walk_at "m steps"
    · rename_i hLR _ F' N' hi' _ _
      show Rr (.ok (.ret .none)) _
      have hLR' : L + 1 = R := by omega
      refine h _ _ _ (keepsOf F' N' hr rfl) (N' _ (.head _)).1 (ints_eq hi' ?_)
      rw [Int.toNat_natCast, putAt_one (by omega)]
      have e1 : R - L = 1 := by omega
      rw [e1] at hx ⊢
      rw [Nat.one_mul] at hx
      congr 1
      show [(x : Int)] = [((x % 2 ^ n : Nat) : Int)]
      rw [Nat.mod_eq_of_lt hx]
    · rename_i hLR
      have hLR' : L + 1 < R := by
        have : L + 1 ≠ R := fun q => hLR (by omega)
        omega
      refine hold_intro ?_
      let mid := (L + R) / 2
      have hm1 : L < mid := by show L < (L + R) / 2; omega
      have hm2 : mid < R := by show (L + R) / 2 < R; omega
      refine m_rshift (x := L + R) (k := 1) (by omega) (by omega) ?_
      have emid : (L + R) / 2 ^ 1 = mid := rfl
      rw [emid]
      generalize mid = mid at hm1 hm2
      try dsimp only
      walk_at "m steps"
      refine hold_intro ?_
      refine m_mulN (x := mid - L) (y := n) (by omega) rfl (by omega) ?_
      generalize hsh : (mid - L) * n = sh
      have hsh2 : sh ≤ 8000 := by
        rw [← hsh]
        exact Nat.le_trans (Nat.mul_le_mul (show mid - L ≤ 40 by omega) hn2) (by decide)
      try dsimp only
      walk_at "m steps"
      refine hold_intro ?_
      refine m_rshift (x := x) (k := sh) rfl rfl ?_
      have hxb : x < 2 ^ 100000 := by
        refine Nat.lt_of_lt_of_le hx (Nat.pow_le_pow_right (by decide) ?_)
        exact Nat.le_trans (Nat.mul_le_mul (show R - L ≤ 40 by omega) hn2) (by decide)
      try dsimp only
      walk_at "m steps"
      refine hold_intro ?_
      refine m_lshift (x := x / 2 ^ sh) (k := sh) rfl rfl (Nat.lt_of_le_of_lt (Nat.div_le_self _ _) hxb) (by omega) ?_
      try dsimp only
      walk_at "m steps"
      refine hold_intro ?_
      refine m_xorLow (x := x) (k := sh) rfl rfl ?_
      try dsimp only
      walk_at "m steps"
      refine hold_intro ?_
      have hne : ∀ b ∈ [cA, cI, cN, fI], b ≠ ad := by
        intro b hb
        simp only [List.mem_cons, List.not_mem_nil, or_false] at hb
        rcases hb with rfl | rfl | rfl | rfl
        · exact neA
        · exact neI
        · exact neN
        · exact neF
      rename_i hx2 F' N'
      have kk := keepsOf F' N' hr rfl
      have k00 : Keeps h00 hx2 := fun b o e => kk b o (fun q => by rw [q, hfresh ad (by simp)] at e; cases e) (hk0 b o e)
      refine wpAny_call (ih (x % 2 ^ sh) L mid (dp + 1) (un + 3) (fr.map (_ :: ·)) gd _ _ _ _ _ vs ds k (by omega) hm1 (by omega) (by rw [hsh]; exact Nat.mod_lt _ (Nat.two_pow_pos _)) k00 (I.keeps rfl ⟨_, _, hl⟩ kk hcc) (N' _ (.head _)).1 hi (by omega) hd40 (by omega) ?_)
      intro h2 tk2 vs2 hk2 hl2 hi2
      obtain ⟨F2, N2⟩ := led_after F' N' hne hk2 hl2
      clear F' N'
      try dsimp only
      walk_at "m steps"
      refine hold_intro ?_
      have kk2 := keepsOf F2 N2 hr rfl
      have k002 : Keeps h00 h2 := fun b o e => kk2 b o (fun q => by rw [q, hfresh ad (by simp)] at e; cases e) (hk0 b o e)
      have e3 : (R - L) * n = sh + (R - mid) * n := by
        rw [← hsh, ← Nat.add_mul]; congr 1; omega
      have hlen1 : ((digN n (mid - L) (x % 2 ^ sh)).map Int.ofNat).length = mid - L := by rw [List.length_map, digN_length]
      have hlen2 : ((digN n (R - mid) (x / 2 ^ sh)).map Int.ofNat).length = R - mid := by rw [List.length_map, digN_length]
      have hpl : (putAt ds L ((digN n (mid - L) (x % 2 ^ sh)).map Int.ofNat)).length = ds.length := putAt_length (by rw [hlen1]; omega)
      refine wpAny_call (ih (x / 2 ^ sh) mid R (dp + 1) (un + 3) (fr.map (_ :: ·)) gd _ _ _ _ _ vs2 _ k (by omega) hm2 (by omega) ?_ k002 (I.keeps rfl ⟨_, _, hl⟩ kk2 hcc) (N2 _ (.head _)).1 hi2 (by rw [hpl]; omega) (by rw [hpl]; omega) (by omega) ?_)
      · rw [e3, Nat.pow_add] at hx
        exact Nat.div_lt_of_lt_mul hx
      intro h3 tk3 vs3 hk3 hl3 hi3
      obtain ⟨F3, N3⟩ := led_after F2 N2 hne hk3 hl3
      clear F2 N2
      try dsimp only
      walk_at "m steps"
      show Rr (.ok (.ret .none)) _
      refine h _ _ _ (keepsOf F3 N3 hr rfl) (N3 _ (.head _)).1 (ints_eq hi3 ?_)
      have e4 := putAt_two (ds := ds) (a := L) (xs := (digN n (mid - L) (x % 2 ^ sh)).map Int.ofNat) (ys := (digN n (R - mid) (x / 2 ^ sh)).map Int.ofNat) (by rw [hlen1, hlen2]; omega)
      rw [hlen1, show L + (mid - L) = mid by omega] at e4
      rw [e4, ← List.map_append]
      have e5 := digN_add n (mid - L) (R - mid) x
      rw [hsh, show mid - L + (R - mid) = R - L by omega] at e5
      rw [e5]
end

end
theorem marks_Int2 : True := by
  w_on
  w_top off
  k_with_none
  trivial
section
/-- the top's facts at a heap from which the two tables are laid aside -/
structure W0 (w : World) (p : Program) (loose : List Str) (mean : ExcName → Option Value) (mg mb : Str → Option Value) (h00 : Heap) : Prop where
  X : (hd.heap_39 w.params).In h00
  T : Top p loose mean mg mb h00
  CI : CodeHd h00 64 60
  CD : CodeHd h00 71 67
  nI : h00.get? 60 = none
  nD : h00.get? 67 = none
theorem news_app {g h h0 : Heap} {L : Addr} {cells r : List (Addr × Obj)} (NC : ∀ p ∈ cells, h.get? p.1 = some p.2 ∧ p.1 ≠ L ∧ h0.get? p.1 = none) (hg : ∀ b o, g.get? b = some o → h0.get? b = some o) (N : News g L h r) : News g L h (cells ++ r) := fun p hp => by
  rcases List.mem_append.mp hp with hp | hp
  · refine ⟨(NC p hp).1, (NC p hp).2.1, ?_⟩
    cases q : g.get? p.1 with
    | none => rfl
    | some o => have := hg _ _ q; rw [(NC p hp).2.2] at this; cases this
  · exact N p hp
theorem led_upd {g h h' : Heap} {L ad : Addr} {m : Str → Option Value} {x x' : Obj} {news news' : List (Addr × Obj)} (F : Fr g L h m) (N : News g L h news) (U : Upd ad x x' news news') (hk : ∀ b o, b ≠ ad → h.get? b = some o → h'.get? b = some o)
    (hl : h'.get? ad = some x') : Fr g L h' m ∧ News g L h' news' := by
  obtain ⟨pre, post, rfl, rfl, a, c⟩ := U.split
  have n0 := N (ad, x) (List.mem_append.mpr (.inr (.head _)))
  refine ⟨⟨F.ns.extBut hk (Ne.symm n0.2.1), fun b o e => hk b o (fun q => ?_) (F.keep b o e), F.above⟩, fun p hp => ?_⟩
  · rw [q, n0.2.2] at e; cases e
  · rcases List.mem_append.mp hp with hp | hp
    · have n1 := N p (List.mem_append.mpr (.inl hp))
      exact ⟨hk _ _ (a p hp) n1.1, n1.2⟩
    · rcases List.mem_cons.mp hp with rfl | hp
      · exact ⟨hl, n0.2⟩
      · have n1 := N p (List.mem_append.mpr (.inr (.tail _ hp)))
        exact ⟨hk _ _ (c p hp) n1.1, n1.2⟩
/-- the table of _int2digits' code holds the inner def's code -/
def TabI (h : Heap) : Prop := ∃ c', h.get? 60 = some (tabObj #[rawInt 37, rawInt 4, .ref c']) ∧ h.CodeRec (.ref c') (Str.ofString "_int2digits.<locals>.inner")
theorem codeRec_keeps {h h' : Heap} {v : Value} {q : Str} (x : h.CodeRec v q) (k : Keeps h h') : h'.CodeRec v q := let ⟨c₂, oc, vs, t, e, g1, g2, g3⟩ := x; ⟨c₂, oc, vs, t, e, k _ _ g1, g2, g3⟩
theorem TabI.keeps {h h' : Heap} (x : TabI h) (k : Keeps h h') : TabI h' := let ⟨c, a, b⟩ := x; ⟨c, k _ _ a, codeRec_keeps b k⟩
/-- a table was filled: where the new code lies -/
def TabNew (P : Addr) (a b : Int) (q : Str) (h h' : Heap) : Prop :=
  ∃ c' oc vs t, h'.get? P = some (tabObj #[rawInt a, rawInt b, .ref c']) ∧ h'.get? c' = some oc ∧ oc.data = .fields vs ∧ vs[1]? = some (.str q t) ∧ h.get? c' = none
section
variable {prog : Program} {w : World} {s : Shared} {R : Result → Shared → Prop} {p : Program} {loose : List Str} {mean : ExcName → Option Value} {mg mb : Str → Option Value} {h00 : Heap}
theorem int2_miss {dp un : Nat} {fr : Option (List Env)} {gd : Option (List Code)} {x n cnt : Nat} {tx tn : Tok}
    (W : W0 w p loose mean mg mb h00) (hk0 : Keeps h00 s.heap) (h60 : s.heap.get? 60 = some (tabObj #[]))
    (hdp : dp + 100 < recursionLimit) (hn1 : 1 ≤ n) (hn2 : n ≤ 200) (hc : (Builtin.Int.intBits (x : Int) + n - 1) / n = cnt) (hc40 : cnt ≤ 40) (hx : x < 2 ^ (cnt * n)) (hx0 : 0 < x) (hcnt : 0 < cnt)
    (h : ∀ l' h' tk vs', (∀ b o, b ≠ 60 → s.heap.get? b = some o → h'.get? b = some o) → TabNew 60 37 4 (Str.ofString "_int2digits.<locals>.inner") s.heap h' → s.heap.objs.size ≤ l' → h'.get? l' = some (listOf (List.toArray vs') 0) → IntsAre vs' ((digN n cnt x).map Int.ofNat) → R (.ok (.ret (.ref l'))) { s with heap := h', toks := tk }) :
    codeAny (model prog w) (Ar dp un fr gd) (.call (.ref 65) ⟨[.int (x : Int) tx, .int (n : Int) tn], []⟩) R s := by
  have X := W.X.keeps hk0
  have T := W.T.keeps hk0
  have hfill : PySem.Challenge.rw_ty0019_01 = PySem.Challenge.rw_ty0019_01 := rfl
  revert hfill X
  k_fill
  intro X hfill
  clear hfill
  refine' enter_cells [60] X T ?k6 ?k7 ?k8 ?k9 ?kB ?kD ?_ ?c2 ?c3 ?c4
  (case k6 => k_is)
  (case k7 => k_is)
  (case k8 => show dp < recursionLimit; omega)
  (case k9 => exact BindsTo.of_eq rfl)
  (case kB => exact rfl)
  (case kD => decide +kernel)
  (case c2 => exact rfl)
  (case c3 => exact rfl)
  (case c4 => exact rfl)
  intro L' h₁ tk cells F NC Y hk₁ hL
  k_cells Y
  try dsimp only at F ⊢
  have kg : Keeps h00 (hideAll s.heap [60]) := fun b o e => hideAll_get _ (hk0 _ _ e) fun q => by rw [List.mem_singleton.mp q, W.nI] at e; cases e
  have Xg := W.X.keeps kg
  have Tg := W.T.keeps kg
  have Cg := W.CI.keeps kg
  have l60 : @LT.lt Nat _ 60 L' := by have := Heap.lt_size h60; rw [hL]; exact this
  have N := news_app NC (fun b o e => of_hideAll _ e) (news_cons (g := hideAll s.heap [60]) ⟨hk₁ _ _ h60, Nat.ne_of_lt l60, hideAll_none _ (by simp)⟩ News.nil)
  clear NC
  have keepsOf : ∀ {h' : Heap} {m : Str → Option Value}, Fr (hideAll s.heap [60]) L' h' m → ∀ b o, b ≠ 60 → s.heap.get? b = some o → h'.get? b = some o := fun F' b o hb e => F'.keep b o (hideAll_get _ e (by simpa using hb))
  have hgg : ∀ b o, s.heap.get? b = some o → b ≠ 60 → (hideAll s.heap [60]).get? b = some o := fun b o e hb => hideAll_get _ e (by simpa using hb)
  generalize hideAll s.heap [60] = g at hgg F N Xg Tg Cg kg keepsOf
  dsimp only [List.cons_append, List.nil_append] at N
  k_with_none
  k_with "m fdiv" => (refine hold_out ?_)
  k_with "m call" => (refine hold_out ?_)
  try k_fold
  walk_at "m steps"
  refine hold_intro ?_
  refine m_fdivN (x := Builtin.Int.intBits (x : Int) + n - 1) (y := n) (by omega) rfl hn1 (by omega) ?_
  rw [hc]
  try dsimp only
  walk_at "m steps"
  rotate_left
  · rename_i hx'
    omega
  refine hold_intro ?_
  rename_i l' _ l1a _ oA dA f' c' oc' cvs ct ctv dc _ _ dd1 dd2 l1c l2c h9 oI F' N' dI hx' _ _
  have k00 : Keeps h00 h9 := fun b o e => F'.keep b o (kg b o e)
  have hfr : ∀ {b : Addr} {o : Obj}, (b, o) ∈ _ → h00.get? b = none := fun {b o} hm => by
    cases q : h00.get? b with
    | none => rfl
    | some o' => have := (N' _ hm).2.2; rw [kg _ _ q] at this; cases this
  have I : InnerAt h9 _ _ f' c' (L' + 1 + 1) (L' + 1 + 1 + 1) (L' + 1) l' n := ⟨(N' _ (by k_mem)).1, codeRec_news N' (by k_mem) dd1 dd2, oA, oI, _, tn, (N' (L' + 1 + 1, oA) (by k_mem)).1, dA, (N' (L' + 1 + 1 + 1, oI) (by k_mem)).1, dI, (N' (L' + 1, _) (by k_mem)).1, by assumption⟩
  have hfresh : ∀ b ∈ [l', L' + 1 + 1, L' + 1 + 1 + 1, L' + 1, f'], h00.get? b = none := by
    intro b hb
    simp only [List.mem_cons, List.not_mem_nil, or_false] at hb
    rcases hb with rfl | rfl | rfl | rfl | rfl
    · exact hfr (by k_mem)
    · exact hfr (o := oA) (by k_mem)
    · exact hfr (o := oI) (by k_mem)
    · exact hfr (by k_mem)
    · exact hfr (by k_mem)
  have hl9 := (N' _ (by k_mem : (l', listOf (Array.replicate (↑cnt : Int).toNat (Value.int 0 _)) 0) ∈ _)).1
  have ear : ∀ v : Value, Array.replicate (↑cnt : Int).toNat v = (List.replicate cnt v).toArray := fun v => by rw [Int.toNat_natCast]; simp
  rw [ear] at hl9
  have hrep : ∀ (k : Nat) (t : Tok), IntsAre (List.replicate k (Value.int 0 t)) (List.replicate k 0) := by
    intro k t
    induction k with
    | zero => exact .nil
    | succ k ih => rw [List.replicate_succ, List.replicate_succ]; exact .cons 0 t ih
  dsimp only at hl9
  simp only [Array.size_replicate, Int.toNat_natCast]
  refine wpAny_call ?_
  refine inner_spec (prog := prog) (hb := by k_is) hn1 hn2 (by omega : @Ne Nat c' l') W.X W.T W.CI hfresh cnt x 0 cnt (dp + 1) (un + 3) (fr.map (_ :: ·)) gd _ _ tx _ _ _ _ 0 (by omega) hcnt hc40 (by simpa using hx) k00 I hl9 (hrep _ _) (by simp) (by simpa using hc40) (by omega) ?_
  intro h2 tk2 vs2 hk2 hl2 hi2
  have hk2' := hk2
  rw [← ear] at hl9
  obtain ⟨F2, N2⟩ := led_upd (x' := listOf vs2.toArray 0) F' N' (by k_upd) hk2 hl2
  clear F' N'
  try dsimp only
  walk_at "m steps"
  have hlL : s.heap.objs.size ≤ l' := by
    have : @LT.lt Nat _ L' l' := by omega
    rw [← hL]; exact Nat.le_of_lt this
  show R (.ok (.ret (.ref l'))) _
  refine h l' h2 tk2 vs2 (keepsOf F2) ⟨c', oc', _, _, ?_, (N2 (c', oc') (by k_mem)).1, dd1, dd2, ?_⟩ hlL hl2 (ints_eq hi2 ?_)
  · have e := (N2 (60, tabObj (#[] ++ #[rawInt ((37 : Nat) : Int), rawInt ((4 : Nat) : Int), .ref c'])) (by k_mem)).1
    simpa using e
  · cases q : s.heap.get? c' with
    | none => rfl
    | some o =>
      have q2 := hgg _ _ q (by omega : @Ne Nat c' 60)
      rw [(N2 (c', oc') (by k_mem)).2.2] at q2
      cases q2
  · rw [Nat.sub_zero]
    unfold putAt
    rw [List.take_zero, List.nil_append, List.drop_eq_nil_of_le (by simp [digN_length]), List.append_nil]
theorem int2_hit {dp un : Nat} {fr : Option (List Env)} {gd : Option (List Code)} {x n cnt : Nat} {tx tn : Tok}
    (W : W0 w p loose mean mg mb h00) (hk0 : Keeps h00 s.heap) (hT : TabI s.heap)
    (hdp : dp + 100 < recursionLimit) (hn1 : 1 ≤ n) (hn2 : n ≤ 200) (hc : (Builtin.Int.intBits (x : Int) + n - 1) / n = cnt) (hc40 : cnt ≤ 40) (hx : x < 2 ^ (cnt * n)) (hx0 : 0 < x) (hcnt : 0 < cnt)
    (h : ∀ l' h' tk, s.heap.objs.size ≤ l' → NewList s.heap h' l' ((digN n cnt x).map Int.ofNat) → R (.ok (.ret (.ref l'))) { s with heap := h', toks := tk }) :
    codeAny (model prog w) (Ar dp un fr gd) (.call (.ref 65) ⟨[.int (x : Int) tx, .int (n : Int) tn], []⟩) R s := by
  obtain ⟨c', h60, hcr⟩ := hT
  have X := W.X.keeps hk0
  have T := W.T.keeps hk0
  have hfill : PySem.Challenge.rw_ty0019_01 = PySem.Challenge.rw_ty0019_01 := rfl
  revert hfill X
  k_fill
  intro X hfill
  clear hfill
  refine' enter_cells [60] X T ?k6 ?k7 ?k8 ?k9 ?kB ?kD ?_ ?c2 ?c3 ?c4
  (case k6 => k_is)
  (case k7 => k_is)
  (case k8 => show dp < recursionLimit; omega)
  (case k9 => exact BindsTo.of_eq rfl)
  (case kB => exact rfl)
  (case kD => decide +kernel)
  (case c2 => exact rfl)
  (case c3 => exact rfl)
  (case c4 => exact rfl)
  intro L' h₁ tk cells F NC Y hk₁ hL
  k_cells Y
  try dsimp only at F ⊢
  have kg : Keeps h00 (hideAll s.heap [60]) := fun b o e => hideAll_get _ (hk0 _ _ e) fun q => by rw [List.mem_singleton.mp q, W.nI] at e; cases e
  have Xg := W.X.keeps kg
  have Tg := W.T.keeps kg
  have Cg := W.CI.keeps kg
  have l60 : @LT.lt Nat _ 60 L' := by have := Heap.lt_size h60; rw [hL]; exact this
  have N := news_app NC (fun b o e => of_hideAll _ e) (news_cons (g := hideAll s.heap [60]) ⟨hk₁ _ _ h60, Nat.ne_of_lt l60, hideAll_none _ (by simp)⟩ News.nil)
  clear NC
  have keepsOf : ∀ {h' : Heap} {m : Str → Option Value}, Fr (hideAll s.heap [60]) L' h' m → ∀ b o, b ≠ 60 → s.heap.get? b = some o → h'.get? b = some o := fun F' b o hb e => F'.keep b o (hideAll_get _ e (by simpa using hb))
  have keepsAll : ∀ {h' : Heap} {m : Str → Option Value}, Fr (hideAll s.heap [60]) L' h' m → h'.get? 60 = some (tabObj #[rawInt 37, rawInt 4, .ref c']) → Keeps s.heap h' := fun {h' m} F' ht b o e => by
    by_cases q : b = 60
    · rw [q] at e ⊢; rw [h60] at e; cases e; exact ht
    · exact keepsOf F' b o q e
  generalize hideAll s.heap [60] = g at F N Xg Tg Cg kg keepsOf keepsAll
  dsimp only [List.cons_append, List.nil_append] at N
  k_with_none
  k_with "m fdiv" => (refine hold_out ?_)
  k_with "m call" => (refine hold_out ?_)
  try k_fold
  walk_at "m steps"
  refine hold_intro ?_
  refine m_fdivN (x := Builtin.Int.intBits (x : Int) + n - 1) (y := n) (by omega) rfl hn1 (by omega) ?_
  rw [hc]
  try dsimp only
  walk_at "m steps"
  rotate_left
  · rename_i hx'
    omega
  refine hold_intro ?_
  rename_i l' _ l1a _ oA dA f' ct dc _ _ l1c h9 oI F' N' dI hx' _ _
  have k00 : Keeps h00 h9 := fun b o e => F'.keep b o (kg b o e)
  have hfr : ∀ {b : Addr} {o : Obj}, (b, o) ∈ _ → h00.get? b = none := fun {b o} hm => by
    cases q : h00.get? b with
    | none => rfl
    | some o' => have := (N' _ hm).2.2; rw [kg _ _ q] at this; cases this
  have I : InnerAt h9 _ _ f' c' (L' + 1 + 1) (L' + 1 + 1 + 1) (L' + 1) l' n := ⟨(N' _ (by k_mem)).1, codeRec_keeps hcr (keepsAll F' (N' (60, _) (by k_mem)).1), oA, oI, _, tn, (N' (L' + 1 + 1, oA) (by k_mem)).1, dA, (N' (L' + 1 + 1 + 1, oI) (by k_mem)).1, dI, (N' (L' + 1, _) (by k_mem)).1, by assumption⟩
  have hfresh : ∀ b ∈ [l', L' + 1 + 1, L' + 1 + 1 + 1, L' + 1, f'], h00.get? b = none := by
    intro b hb
    simp only [List.mem_cons, List.not_mem_nil, or_false] at hb
    rcases hb with rfl | rfl | rfl | rfl | rfl
    · exact hfr (by k_mem)
    · exact hfr (o := oA) (by k_mem)
    · exact hfr (o := oI) (by k_mem)
    · exact hfr (by k_mem)
    · exact hfr (by k_mem)
  have hl9 := (N' _ (by k_mem : (l', listOf (Array.replicate (↑cnt : Int).toNat (Value.int 0 _)) 0) ∈ _)).1
  have ear : ∀ v : Value, Array.replicate (↑cnt : Int).toNat v = (List.replicate cnt v).toArray := fun v => by rw [Int.toNat_natCast]; simp
  rw [ear] at hl9
  have hrep : ∀ (k : Nat) (t : Tok), IntsAre (List.replicate k (Value.int 0 t)) (List.replicate k 0) := by
    intro k t
    induction k with
    | zero => exact .nil
    | succ k ih => rw [List.replicate_succ, List.replicate_succ]; exact .cons 0 t ih
  dsimp only at hl9
  simp only [Array.size_replicate, Int.toNat_natCast]
  have hcl : c' ≠ l' := fun q => by
    obtain ⟨c₂, oc, cvs, ct2, e, g1, g2, g3⟩ := hcr
    cases e
    have := Heap.lt_size g1
    rw [q, ← hL] at this
    have l2 : @LT.lt Nat _ L' l' := by omega
    exact absurd this (Nat.not_lt.mpr (Nat.le_of_lt l2))
  refine wpAny_call ?_
  refine inner_spec (prog := prog) (hb := by k_is) hn1 hn2 hcl W.X W.T W.CI hfresh cnt x 0 cnt (dp + 1) (un + 3) (fr.map (_ :: ·)) gd _ _ tx _ _ _ _ 0 (by omega) hcnt hc40 (by simpa using hx) k00 I hl9 (hrep _ _) (by simp) (by simpa using hc40) (by omega) ?_
  intro h2 tk2 vs2 hk2 hl2 hi2
  have hk2' := hk2
  rw [← ear] at hl9
  obtain ⟨F2, N2⟩ := led_upd (x' := listOf vs2.toArray 0) F' N' (by k_upd) hk2 hl2
  clear F' N'
  try dsimp only
  walk_at "m steps"
  have hlL : s.heap.objs.size ≤ l' := by
    have : @LT.lt Nat _ L' l' := by omega
    rw [← hL]; exact Nat.le_of_lt this
  show R (.ok (.ret (.ref l'))) _
  refine h l' h2 tk2 hlL ⟨keepsAll F2 (N2 (60, _) (by k_mem)).1, Heap.get?_none_of_le hlL, _, _, hl2, ints_eq (by simpa using hi2) ?_⟩
  · unfold putAt
    rw [List.take_zero, List.nil_append, List.drop_eq_nil_of_le (by simp [digN_length]), List.append_nil]
end

end
theorem marks_Inner2 : True := by
  w_on
  w_top off
  k_with_none
  trivial
section
/-- the number that figures to the base 2^n tell, the lowest first -/
def valN (n : Nat) : List Nat → Nat
  | [] => 0
  | d :: r => d + 2 ^ n * valN n r
theorem valN_append (n : Nat) : ∀ xs ys, valN n (xs ++ ys) = valN n xs + 2 ^ (xs.length * n) * valN n ys
  | [], ys => by simp [valN]
  | d :: r, ys => by
    rw [List.cons_append, valN, valN, valN_append n r ys, List.length_cons, Nat.succ_mul, Nat.pow_add, Nat.mul_add]
    rw [Nat.mul_comm (2 ^ (r.length * n)) (2 ^ n), Nat.mul_assoc]
    omega
theorem valN_lt (n : Nat) : ∀ xs : List Nat, (∀ d ∈ xs, d < 2 ^ n) → valN n xs < 2 ^ (xs.length * n)
  | [], _ => by simp [valN]
  | d :: r, h => by
    have h1 := h d (.head _)
    have h2 := valN_lt n r fun x hx => h x (.tail _ hx)
    rw [valN, List.length_cons, Nat.succ_mul, Nat.add_comm (r.length * n) n, Nat.pow_add]
    have h3 : valN n r + 1 ≤ 2 ^ (r.length * n) := h2
    have h4 := Nat.mul_le_mul_left (2 ^ n) h3
    rw [Nat.mul_add] at h4
    omega
section
variable {prog : Program} {w : World} {p : Program} {loose : List Str} {mean : ExcName → Option Value} {mg mb : Str → Option Value}
theorem inner2_spec {nm ql inm : Str} {pr ipar : Arguments} {rest ibody : List Stmt} {dl : List Expr} {rt : Option Expr} {isc sc : Scope} {ts : Option Scope} {ib : Str} {ip : Pos} {dV kV doc pm cdv ct oc : Value} {an od : Option Addr} {osl : Array (Option Value)} {tp : _}
    (hb : (hd.heap_39 w.params).lookup 72 = some ⟨oc, od, .func (fnX nm ql pr (.FunctionDef inm ipar ibody dl rt tp isc ts ib ip :: rest) sc [] dV kV doc pm an cdv ct), osl⟩)
    {idoc ipm ctv : Value} {fI c' cA cI cN ad : Addr} {n : Nat} (hn1 : 1 ≤ n) (hn2 : n ≤ 200) {qual : Str}
    {h00 : Heap} (X0 : (hd.heap_39 w.params).In h00) (T0 : Top p loose mean mg mb h00) (C0 : CodeHd h00 64 60) (hfresh : ∀ b ∈ [cA, cI, cN, fI], h00.get? b = none) {vs : List Value} {ds : List Nat} (hi : IntsAre vs (ds.map Int.ofNat)) (hds : ∀ x ∈ ds, x < 2 ^ n) (hd40 : ds.length ≤ 40) :
    ∀ (d L R : Nat) (dp un : Nat) (fr : Option (List Env)) (gd : Option (List Code)) (s : Shared) (Rr : Result → Shared → Prop) (tl tr : Tok),
      R - L ≤ d → L < R → R ≤ ds.length → Keeps h00 s.heap →
      InnerAt s.heap (fnMade inm qual ipar ibody isc [("n", cN), ("inner", cI), ("digits", cA)] idoc ipm c' ctv) qual fI c' cA cI cN ad n →
      s.heap.IsList ad vs.toArray → dp + 2 * d + 5 < recursionLimit →
      (∀ h' tk t', Keeps s.heap h' → Rr (.ok (.ret (.int ((valN n ((ds.drop L).take (R - L)) : Nat) : Int) t'))) { s with heap := h', toks := tk }) →
      codeAny (model prog w) (Ar dp un fr gd) (.call (.ref fI) ⟨[.int (L : Int) tl, .int (R : Int) tr], []⟩) Rr s := by
  have hfill : PySem.Challenge.rw_ty0019_01 = PySem.Challenge.rw_ty0019_01 := rfl
  revert hfill X0
  k_fill
  intro X0 hfill
  clear hfill
  refine' use_lookup ?e hb ?_
  (case e => k_is)
  intro q
  cases q
  clear hb
  intro d
  induction d with
  | zero => intro L R dp un fr gd s Rr tl tr h1 h2; omega
  | succ d ih =>
    intro L R dp un fr gd s Rr tl tr h1 h2 hRl hk0 I hl hdp h
    have T := T0.keeps hk0
    have hin := I.cells
    obtain ⟨oA, oI, oN, tn, a1, a2, b1, b2, c1, c2⟩ := hin
    refine' enter_clos [cA, cI, cN, fI] T I.fn I.code ?k8 ?k9 ?kB ?_ ?c5 ?c2 ?c3 ?c4
    (case k8 => show dp < recursionLimit; omega)
    (case k9 => exact BindsTo.of_eq rfl)
    (case c5 => decide)
    (case kB => exact locs rfl)
    (case c2 => exact rfl)
    (case c3 => exact rfl)
    (case c4 => exact rfl)
    intro L' h₁ F hk₁ hL
    try dsimp only at F ⊢
    have lt : ∀ {b : Addr} {o : Obj}, s.heap.get? b = some o → b ≠ L' := fun e q => Nat.lt_irrefl _ (by have := Heap.lt_size e; rw [q, hL] at this; exact this)
    have mem : ∀ {b : Addr} {o : Obj}, s.heap.get? b = some o → b ∈ [cA, cI, cN, fI] → h₁.get? b = some o ∧ b ≠ L' ∧ (hideAll s.heap [cA, cI, cN, fI]).get? b = none := fun e m => ⟨hk₁ _ _ e, lt e, hideAll_none _ m⟩
    have N := news_cons (mem a1 (by simp)) (news_cons (mem b1 (by simp)) (news_cons (mem c1 (by simp)) (news_cons (mem I.fn (by simp)) News.nil)))
    clear mem
    have hr := fa_cons a1 (fa_cons b1 (fa_cons c1 (fa_cons I.fn fa_nil)))
    have keepsOf : ∀ {h' : Heap} {m : Str → Option Value} {rest : List (Addr × Obj)}, Fr (hideAll s.heap [cA, cI, cN, fI]) L' h' m → News (hideAll s.heap [cA, cI, cN, fI]) L' h' rest → (∀ p ∈ rest, s.heap.get? p.1 = some p.2) → rest.map (·.1) = [cA, cI, cN, fI] → Keeps s.heap h' := by
      intro h' m rest F' N' hr hrm b o e
      by_cases q : ∃ p ∈ rest, b = p.1
      · obtain ⟨p, hp, rfl⟩ := q
        have := hr p hp
        rw [this] at e
        cases e
        exact (N' p hp).1
      · refine F'.keep b o (hideAll_get _ e fun hm => q ?_)
        rw [← hrm] at hm
        obtain ⟨p, hp, hq⟩ := List.mem_map.mp hm
        exact ⟨p, hp, hq.symm⟩
    have kg : Keeps h00 (hideAll s.heap [cA, cI, cN, fI]) := fun b o e => hideAll_get _ (hk0 _ _ e) fun q => by rw [hfresh b q] at e; cases e
    have X := X0.keeps kg
    have Tg := T0.keeps kg
    have Cg := C0.keeps kg
    have hlg : (hideAll s.heap [cA, cI, cN, fI]).IsList ad vs.toArray := by
      obtain ⟨o, e, hc, kk, hd⟩ := id hl
      refine ⟨o, hideAll_get _ e fun hm => ?_, hc, kk, hd⟩
      simp only [List.mem_cons, List.not_mem_nil, or_false] at hm
      rcases hm with q | q | q | q
      · rw [q, a1] at e; cases e; rw [hd] at a2; cases a2
      · rw [q, b1] at e; cases e; rw [hd] at b2; cases b2
      · rw [q, c1] at e; cases e; rw [hd] at c2; cases c2
      · rw [q, I.fn] at e; cases e; cases hd
    generalize hideAll s.heap [cA, cI, cN, fI] = g at F N X Tg Cg kg keepsOf hlg
    k_with_none
    k_with "m rshift" => (refine hold_out ?_)
    k_with "m lshift" => (refine hold_out ?_)
    k_with "m mul" => (refine hold_out ?_)
    k_with "m call" => (refine hold_out ?_)
    try k_fold
    walk_at "m steps"
    · rename_i hLR _
      show Rr (.ok (.ret _)) _
      have hLR' : L + 1 = R := by omega
      have e : (List.map Int.ofNat ds).getD (L : Int).toNat 0 = ((valN n ((ds.drop L).take (R - L)) : Nat) : Int) := by
        rw [show R - L = 1 by omega, Int.toNat_natCast]
        have hL' : L < ds.length := by omega
        rw [List.drop_eq_getElem_cons hL', List.take_succ_cons, List.take_zero]
        rw [List.getD_eq_getElem?_getD, List.getElem?_map, List.getElem?_eq_getElem hL']
        show ((ds[L] : Nat) : Int) = ((valN n [ds[L]] : Nat) : Int)
        simp [valN]
      rw [e]
      exact h _ _ _ (keepsOf F N hr rfl)
    · rename_i hLR
      have hLR' : L + 1 < R := by
        have : L + 1 ≠ R := fun q => hLR (by omega)
        omega
      refine hold_intro ?_
      let mid := (L + R) / 2
      have hm1 : L < mid := by show L < (L + R) / 2; omega
      have hm2 : mid < R := by show (L + R) / 2 < R; omega
      refine m_rshift (x := L + R) (k := 1) (by omega) (by omega) ?_
      have emid : (L + R) / 2 ^ 1 = mid := rfl
      rw [emid]
      generalize mid = mid at hm1 hm2
      try dsimp only
      walk_at "m steps"
      refine hold_intro ?_
      refine m_mulN (x := mid - L) (y := n) (by omega) rfl (by omega) ?_
      generalize hsh : (mid - L) * n = sh
      have hsh2 : sh ≤ 8000 := by
        rw [← hsh]
        exact Nat.le_trans (Nat.mul_le_mul (show mid - L ≤ 40 by omega) hn2) (by decide)
      try dsimp only
      walk_at "m steps"
      refine hold_intro ?_
      rename_i hx2 F' N'
      have kk := keepsOf F' N' hr rfl
      have k00 : Keeps h00 hx2 := fun b o e => kk b o (hk0 b o e)
      have iat : ∀ {h' : Heap}, Keeps s.heap h' → InnerAt h' (fnMade _ qual _ _ _ [("n", cN), ("inner", cI), ("digits", cA)] idoc ipm c' ctv) qual fI c' cA cI cN ad n := fun k => ⟨k _ _ I.fn, codeRec_keeps I.code k, oA, oI, oN, tn, k _ _ a1, a2, k _ _ b1, b2, k _ _ c1, c2⟩
      have lat : ∀ {h' : Heap}, Keeps s.heap h' → h'.IsList ad vs.toArray := fun k => let ⟨o, e, r⟩ := hl; ⟨o, k _ _ e, r⟩
      refine wpAny_call (ih mid R (dp + 1) (un + 3) (fr.map (_ :: ·)) gd _ _ _ _ (by omega) hm2 hRl k00 (iat kk) (lat kk) (by omega) ?_)
      intro h2 tk2 t2 hk2
      have F2 := fr_keeps F' hk2
      have N2 := news_keeps N' hk2
      clear F' N'
      generalize hv2 : valN n ((ds.drop mid).take (R - mid)) = v2
      have hsub : ∀ a b, ∀ x ∈ (ds.drop a).take b, x < 2 ^ n := fun a b x hx => hds x (List.mem_of_mem_drop (List.mem_of_mem_take hx))
      have hv2b : v2 < 2 ^ 100000 := by
        rw [← hv2]
        refine Nat.lt_of_lt_of_le (valN_lt n _ (hsub _ _)) (Nat.pow_le_pow_right (by decide) ?_)
        refine Nat.le_trans (Nat.mul_le_mul (show _ ≤ 40 from ?_) hn2) (by decide)
        simp only [List.length_take, List.length_drop]; omega
      try dsimp only
      walk_at "m steps"
      refine hold_intro ?_
      refine m_lshift (x := v2) (k := sh) rfl rfl hv2b (by omega) ?_
      try dsimp only
      walk_at "m steps"
      refine hold_intro ?_
      have kk2 := keepsOf F2 N2 hr rfl
      refine wpAny_call (ih L mid (dp + 1) (un + 3) (fr.map (_ :: ·)) gd _ _ _ _ (by omega) hm1 (by omega) (fun b o e => kk2 b o (hk0 b o e)) (iat kk2) (lat kk2) (by omega) ?_)
      intro h3 tk3 t3 hk3
      have F3 := fr_keeps F2 hk3
      have N3 := news_keeps N2 hk3
      clear F2 N2
      try dsimp only
      walk_at "m steps"
      show Rr (.ok (.ret _)) _
      have e : ((v2 * 2 ^ sh : Nat) : Int) + ((valN n ((ds.drop L).take (mid - L)) : Nat) : Int) = ((valN n ((ds.drop L).take (R - L)) : Nat) : Int) := by
        have e1 : (ds.drop L).take (R - L) = (ds.drop L).take (mid - L) ++ (ds.drop mid).take (R - mid) := by
          rw [show R - L = (mid - L) + (R - mid) by omega, List.take_add, List.drop_drop, show L + (mid - L) = mid by omega]
        have e2 : ((ds.drop L).take (mid - L)).length = mid - L := by simp only [List.length_take, List.length_drop]; omega
        rw [e1, valN_append, e2, hsh, hv2, Nat.mul_comm v2, ← Int.natCast_add, Nat.add_comm]
      rw [e]
      exact h _ _ _ (keepsOf F3 N3 hr rfl)
end

end
theorem marks_Dig2 : True := by
  w_on
  w_top off
  k_with_none
  trivial
section
/-- the table of _digits2int's code holds the inner def's code -/
def TabD (h : Heap) : Prop := ∃ c', h.get? 67 = some (tabObj #[rawInt 52, rawInt 4, .ref c']) ∧ h.CodeRec (.ref c') (Str.ofString "_digits2int.<locals>.inner")
theorem TabD.keeps {h h' : Heap} (x : TabD h) (k : Keeps h h') : TabD h' := let ⟨c, a, b⟩ := x; ⟨c, k _ _ a, codeRec_keeps b k⟩
section
variable {prog : Program} {w : World} {s : Shared} {R : Result → Shared → Prop} {p : Program} {loose : List Str} {mean : ExcName → Option Value} {mg mb : Str → Option Value} {h00 : Heap}
theorem dig2_miss {dp un : Nat} {fr : Option (List Env)} {gd : Option (List Code)} {n : Nat} {ad : Addr} {vs : List Value} {ds : List Nat} {tn : Tok}
    (W : W0 w p loose mean mg mb h00) (hk0 : Keeps h00 s.heap) (h60 : s.heap.get? 67 = some (tabObj #[]))
    (hdp : dp + 100 < recursionLimit) (hn1 : 1 ≤ n) (hn2 : n ≤ 200) (hl : s.heap.IsList ad vs.toArray) (hi : IntsAre vs (ds.map Int.ofNat)) (hds : ∀ x ∈ ds, x < 2 ^ n) (hd0 : 0 < ds.length) (hd40 : ds.length ≤ 40)
    (h : ∀ h' tk t', (∀ b o, b ≠ 67 → s.heap.get? b = some o → h'.get? b = some o) → TabNew 67 52 4 (Str.ofString "_digits2int.<locals>.inner") s.heap h' → R (.ok (.ret (.int ((valN n ds : Nat) : Int) t'))) { s with heap := h', toks := tk }) :
    codeAny (model prog w) (Ar dp un fr gd) (.call (.ref 72) ⟨[.ref ad, .int (n : Int) tn], []⟩) R s := by
  have X := W.X.keeps hk0
  have T := W.T.keeps hk0
  have hfill : PySem.Challenge.rw_ty0019_01 = PySem.Challenge.rw_ty0019_01 := rfl
  revert hfill X
  k_fill
  intro X hfill
  clear hfill
  refine' enter_cells [67] X T ?k6 ?k7 ?k8 ?k9 ?kB ?kD ?_ ?c2 ?c3 ?c4
  (case k6 => k_is)
  (case k7 => k_is)
  (case k8 => show dp < recursionLimit; omega)
  (case k9 => exact BindsTo.of_eq rfl)
  (case kB => exact rfl)
  (case kD => decide +kernel)
  (case c2 => exact rfl)
  (case c3 => exact rfl)
  (case c4 => exact rfl)
  intro L' h₁ tk cells F NC Y hk₁ hL
  k_cells Y
  try dsimp only at F ⊢
  have kg : Keeps h00 (hideAll s.heap [67]) := fun b o e => hideAll_get _ (hk0 _ _ e) fun q => by rw [List.mem_singleton.mp q, W.nD] at e; cases e
  have Xg := W.X.keeps kg
  have Tg := W.T.keeps kg
  have Cg := W.CD.keeps kg
  have l60 : @LT.lt Nat _ 67 L' := by have := Heap.lt_size h60; rw [hL]; exact this
  have N := news_app NC (fun b o e => of_hideAll _ e) (news_cons (g := hideAll s.heap [67]) ⟨hk₁ _ _ h60, Nat.ne_of_lt l60, hideAll_none _ (by simp)⟩ News.nil)
  clear NC
  have keepsOf : ∀ {h' : Heap} {m : Str → Option Value}, Fr (hideAll s.heap [67]) L' h' m → ∀ b o, b ≠ 67 → s.heap.get? b = some o → h'.get? b = some o := fun F' b o hb e => F'.keep b o (hideAll_get _ e (by simpa using hb))
  have hgg : ∀ b o, s.heap.get? b = some o → b ≠ 67 → (hideAll s.heap [67]).get? b = some o := fun b o e hb => hideAll_get _ e (by simpa using hb)
  generalize hideAll s.heap [67] = g at hgg F N Xg Tg Cg kg keepsOf
  dsimp only [List.cons_append, List.nil_append] at N
  k_with_none
  have hlg : g.IsList ad vs.toArray := by
    obtain ⟨o, e, hc, kk, hd⟩ := id hl
    refine ⟨o, hgg _ _ e fun q => ?_, hc, kk, hd⟩
    rw [q, h60] at e; cases e; cases hd
  k_with "m call" => (refine hold_out ?_)
  try k_fold
  walk_at "m steps"
  rotate_left
  · rename_i hx'
    simp at hx'
    rw [hx'] at hd0
    simp at hd0
  refine hold_intro ?_
  rename_i o1 o2 o3 d1 d2 d3 f' c' oc' cvs ct ctv dc _ _ dd1 dd2 l1c l2c h9 oI F' N' dI hx'
  have k00 : Keeps h00 h9 := fun b o e => F'.keep b o (kg b o e)
  have hfr : ∀ {b : Addr} {o : Obj}, (b, o) ∈ _ → h00.get? b = none := fun {b o} hm => by
    cases q : h00.get? b with
    | none => rfl
    | some o' => have := (N' _ hm).2.2; rw [kg _ _ q] at this; cases this
  have I : InnerAt h9 _ _ f' c' (L' + 1) (L' + 1 + 1 + 1) (L' + 1 + 1) ad n := ⟨(N' _ (by k_mem)).1, codeRec_news N' (by k_mem) dd1 dd2, o3, oI, o2, tn, (N' (L' + 1, o3) (by k_mem)).1, d3, (N' (L' + 1 + 1 + 1, oI) (by k_mem)).1, dI, (N' (L' + 1 + 1, o2) (by k_mem)).1, d2⟩
  have hfresh : ∀ b ∈ [L' + 1, L' + 1 + 1 + 1, L' + 1 + 1, f'], h00.get? b = none := by
    intro b hb
    simp only [List.mem_cons, List.not_mem_nil, or_false] at hb
    rcases hb with rfl | rfl | rfl | rfl
    · exact hfr (o := o3) (by k_mem)
    · exact hfr (o := oI) (by k_mem)
    · exact hfr (o := o2) (by k_mem)
    · exact hfr (by k_mem)
  have hl9 : h9.IsList ad vs.toArray := let ⟨o, e, r⟩ := hlg; ⟨o, F'.keep _ _ e, r⟩
  simp only [List.length_map]
  refine wpAny_call ?_
  refine inner2_spec (prog := prog) (hb := by k_is) hn1 hn2 W.X W.T W.CI hfresh hi hds hd40 ds.length 0 ds.length (dp + 1) (un + 3) (fr.map (_ :: ·)) gd _ _ _ _ (by omega) hd0 (Nat.le_refl _) k00 I hl9 (by omega) ?_
  intro h2 tk2 t2 hk2
  have F2 := fr_keeps F' hk2
  have N2 := news_keeps N' hk2
  clear F' N'
  rw [List.drop_zero, Nat.sub_zero, List.take_length]
  try dsimp only
  walk_at "m steps"
  show R (.ok (.ret _)) _
  refine h h2 tk2 t2 (keepsOf F2) ⟨c', oc', _, _, ?_, (N2 (c', oc') (by k_mem)).1, dd1, dd2, ?_⟩
  · have e := (N2 (67, tabObj (#[] ++ #[rawInt ((52 : Nat) : Int), rawInt ((4 : Nat) : Int), .ref c'])) (by k_mem)).1
    simpa using e
  · cases q : s.heap.get? c' with
    | none => rfl
    | some o =>
      have q2 := hgg _ _ q (by omega : @Ne Nat c' 67)
      rw [(N2 (c', oc') (by k_mem)).2.2] at q2
      cases q2
theorem dig2_hit {dp un : Nat} {fr : Option (List Env)} {gd : Option (List Code)} {n : Nat} {ad : Addr} {vs : List Value} {ds : List Nat} {tn : Tok}
    (W : W0 w p loose mean mg mb h00) (hk0 : Keeps h00 s.heap) (hT : TabD s.heap)
    (hdp : dp + 100 < recursionLimit) (hn1 : 1 ≤ n) (hn2 : n ≤ 200) (hl : s.heap.IsList ad vs.toArray) (hi : IntsAre vs (ds.map Int.ofNat)) (hds : ∀ x ∈ ds, x < 2 ^ n) (hd0 : 0 < ds.length) (hd40 : ds.length ≤ 40)
    (h : ∀ h' tk t', Keeps s.heap h' → R (.ok (.ret (.int ((valN n ds : Nat) : Int) t'))) { s with heap := h', toks := tk }) :
    codeAny (model prog w) (Ar dp un fr gd) (.call (.ref 72) ⟨[.ref ad, .int (n : Int) tn], []⟩) R s := by
  obtain ⟨c', h60, hcr⟩ := hT
  have X := W.X.keeps hk0
  have T := W.T.keeps hk0
  have hfill : PySem.Challenge.rw_ty0019_01 = PySem.Challenge.rw_ty0019_01 := rfl
  revert hfill X
  k_fill
  intro X hfill
  clear hfill
  refine' enter_cells [67] X T ?k6 ?k7 ?k8 ?k9 ?kB ?kD ?_ ?c2 ?c3 ?c4
  (case k6 => k_is)
  (case k7 => k_is)
  (case k8 => show dp < recursionLimit; omega)
  (case k9 => exact BindsTo.of_eq rfl)
  (case kB => exact rfl)
  (case kD => decide +kernel)
  (case c2 => exact rfl)
  (case c3 => exact rfl)
  (case c4 => exact rfl)
  intro L' h₁ tk cells F NC Y hk₁ hL
  k_cells Y
  try dsimp only at F ⊢
  have kg : Keeps h00 (hideAll s.heap [67]) := fun b o e => hideAll_get _ (hk0 _ _ e) fun q => by rw [List.mem_singleton.mp q, W.nD] at e; cases e
  have Xg := W.X.keeps kg
  have Tg := W.T.keeps kg
  have Cg := W.CD.keeps kg
  have l60 : @LT.lt Nat _ 67 L' := by have := Heap.lt_size h60; rw [hL]; exact this
  have N := news_app NC (fun b o e => of_hideAll _ e) (news_cons (g := hideAll s.heap [67]) ⟨hk₁ _ _ h60, Nat.ne_of_lt l60, hideAll_none _ (by simp)⟩ News.nil)
  clear NC
  have keepsOf : ∀ {h' : Heap} {m : Str → Option Value}, Fr (hideAll s.heap [67]) L' h' m → ∀ b o, b ≠ 67 → s.heap.get? b = some o → h'.get? b = some o := fun F' b o hb e => F'.keep b o (hideAll_get _ e (by simpa using hb))
  have keepsAll : ∀ {h' : Heap} {m : Str → Option Value}, Fr (hideAll s.heap [67]) L' h' m → h'.get? 67 = some (tabObj #[rawInt 52, rawInt 4, .ref c']) → Keeps s.heap h' := fun {h' m} F' ht b o e => by
    by_cases q : b = 67
    · rw [q] at e ⊢; rw [h60] at e; cases e; exact ht
    · exact keepsOf F' b o q e
  have hgg : ∀ b o, s.heap.get? b = some o → b ≠ 67 → (hideAll s.heap [67]).get? b = some o := fun b o e hb => hideAll_get _ e (by simpa using hb)
  generalize hideAll s.heap [67] = g at hgg F N Xg Tg Cg kg keepsOf keepsAll
  dsimp only [List.cons_append, List.nil_append] at N
  k_with_none
  have hlg : g.IsList ad vs.toArray := by
    obtain ⟨o, e, hc, kk, hd⟩ := id hl
    refine ⟨o, hgg _ _ e fun q => ?_, hc, kk, hd⟩
    rw [q, h60] at e; cases e; cases hd
  clear hgg
  k_with "m call" => (refine hold_out ?_)
  try k_fold
  walk_at "m steps"
  rotate_left
  · rename_i hx'
    simp at hx'
    rw [hx'] at hd0
    simp at hd0
  refine hold_intro ?_
  rename_i o1 o2 o3 d1 d2 d3 f' ct dc _ _ l1c h9 oI F' N' dI hx'
  have k00 : Keeps h00 h9 := fun b o e => F'.keep b o (kg b o e)
  have hfr : ∀ {b : Addr} {o : Obj}, (b, o) ∈ _ → h00.get? b = none := fun {b o} hm => by
    cases q : h00.get? b with
    | none => rfl
    | some o' => have := (N' _ hm).2.2; rw [kg _ _ q] at this; cases this
  have I : InnerAt h9 _ _ f' c' (L' + 1) (L' + 1 + 1 + 1) (L' + 1 + 1) ad n := ⟨(N' _ (by k_mem)).1, codeRec_keeps hcr (keepsAll F' (N' (67, _) (by k_mem)).1), o3, oI, o2, tn, (N' (L' + 1, o3) (by k_mem)).1, d3, (N' (L' + 1 + 1 + 1, oI) (by k_mem)).1, dI, (N' (L' + 1 + 1, o2) (by k_mem)).1, d2⟩
  have hfresh : ∀ b ∈ [L' + 1, L' + 1 + 1 + 1, L' + 1 + 1, f'], h00.get? b = none := by
    intro b hb
    simp only [List.mem_cons, List.not_mem_nil, or_false] at hb
    rcases hb with rfl | rfl | rfl | rfl
    · exact hfr (o := o3) (by k_mem)
    · exact hfr (o := oI) (by k_mem)
    · exact hfr (o := o2) (by k_mem)
    · exact hfr (by k_mem)
  have hl9 : h9.IsList ad vs.toArray := let ⟨o, e, r⟩ := hlg; ⟨o, F'.keep _ _ e, r⟩
  simp only [List.length_map]
  refine wpAny_call ?_
  refine inner2_spec (prog := prog) (hb := by k_is) hn1 hn2 W.X W.T W.CI hfresh hi hds hd40 ds.length 0 ds.length (dp + 1) (un + 3) (fr.map (_ :: ·)) gd _ _ _ _ (by omega) hd0 (Nat.le_refl _) k00 I hl9 (by omega) ?_
  intro h2 tk2 t2 hk2
  have F2 := fr_keeps F' hk2
  have N2 := news_keeps N' hk2
  clear F' N'
  rw [List.drop_zero, Nat.sub_zero, List.take_length]
  try dsimp only
  walk_at "m steps"
  show R (.ok (.ret _)) _
  exact h h2 tk2 t2 (keepsAll F2 (N2 (67, _) (by k_mem)).1)
end

end
section
section
variable {prog : Program} {w : World} {A : Around} {E : Value → Shared → Prop} {s : Shared} {env : Env} {h₀ : Heap} {x : Str} {body : List Stmt} {Q : Flow → Shared → Prop}
/-- a list of ints of the ledger, from behind, by what holds of it -/
theorem iter_revN {l I : Addr} {vs : List Value} {ns : List Int} {nn : Nat} {m₀ : Str → Option Value} {news : List (Addr × Obj)} (J : Nat → (Str → Option Value) → List (Addr × Obj) → Prop)
    (hh : A.handled = none) (hl : (l, listOf vs.toArray nn) ∈ news) (hi : IntsAre vs ns) (F : Fr h₀ env.locals s.heap m₀) (N : News h₀ env.locals s.heap ((I, revObj l ((vs.length : Int) - 1)) :: news)) (hI : ∀ p ∈ news, p.1 < I) (hj : J 0 m₀ news)
    (turn : ∀ i n t m₁ news₁ h tk own, ns.reverse[i]? = some n → news₁.map (·.1) = news.map (·.1) → OwnOff own (news.map (·.1)) → (l, listOf vs.toArray nn) ∈ news₁ → J i m₁ news₁ → Fr h₀ env.locals h (fun y => if y = x then some (.int n t) else m₁ y) → News h₀ env.locals h (news₁ ++ own) →
      wpAny (model prog w) A (execs body env) (InvPostN h₀ env.locals (fun m' nx => (l, listOf vs.toArray nn) ∈ nx ∧ J (i + 1) m' nx) own (news.map (·.1)) { s with heap := h, toks := tk } Q) E { s with heap := h, toks := tk })
    (done : ∀ m₁ news₁ h tk, news₁.map (·.1) = news.map (·.1) → (l, listOf vs.toArray nn) ∈ news₁ → J ns.length m₁ news₁ → Fr h₀ env.locals h m₁ → News h₀ env.locals h news₁ → Q .next { s with heap := h, toks := tk }) :
    wpAny (model prog w) A (pyIter (.ref I)) (fun it s₂ => LoopAtV prog w A h₀ env x body Q E it s₂) E s := by
  have hIx := N _ (.head _)
  have hol : s.heap.get? l = some (listOf vs.toArray nn) := (N _ (.tail _ hl)).1
  have hls : s.heap.IsList l vs.toArray := ⟨_, hol, rfl, nn, rfl⟩
  have hne : l ≠ I := Nat.ne_of_lt (hI _ hl)
  have hit : s.heap.IsRevIter I l ((vs.length : Int) - 1) := ⟨_, hIx.1, rfl, rfl⟩
  refine wpAny_pyIter_revIter hit ?_
  have W := Walks.listRev (prog := prog) (w := w) hh I l hne vs.toArray
  have hvl : vs.length = ns.length := hi.length
  have hlen : vs.toArray.size = ns.length := by simp [hvl]
  rw [hlen] at W
  refine ⟨I, _, _, ns.length, _, _, m₀, news, (fun i m nx => nx.map (·.1) = news.map (·.1) ∧ (l, listOf vs.toArray nn) ∈ nx ∧ J i m nx), rfl, W, ?_, ?_, ?_, ⟨Nat.zero_le _, ?_, hls⟩, F, (fun p hp => N p (.tail _ hp)), ⟨rfl, hl, hj⟩, ?_, ?_⟩
  · intro hm
    rcases List.mem_cons.mp hm with e | hm
    · exact hIx.2.1 e.symm
    · exact (N _ (.tail _ hl)).2.1 ((List.mem_singleton.mp hm).symm)
  · intro b hb
    rw [List.mem_singleton.mp hb]
    exact hIx.2.2
  · intro p hp hI'
    exact absurd (hI p hp) ((List.mem_singleton.mp hI') ▸ Nat.lt_irrefl _)
  · have e : (ns.length : Int) - 1 - ((0 : Nat) : Int) = (vs.length : Int) - 1 := by omega
    rw [e]
    exact hit
  · rintro i v m₁ news₁ s₁ own ⟨hh', tk', rfl⟩ hin hP ⟨hadr, hl₁, hJ⟩ hoff hown hget hfp _ F₁ N₁
    have hsep : OwnOff (own.filter fun p => decide (p.1 = I)) (news.map (·.1)) := by
      intro p hp b hb e
      obtain ⟨q, hq, rfl⟩ := List.mem_map.mp hb
      have h1 : p.1 = I := by simpa using (List.mem_filter.mp hp).2
      exact absurd (hI q hq) (by rw [← e, h1]; exact Nat.lt_irrefl _)
    have hlt' : i < ns.length := hin
    have hj' : ns.length - 1 - i < ns.length := by omega
    obtain ⟨t, hx⟩ := hi.get (ns.length - 1 - i) ns[ns.length - 1 - i] (by simp [hj'])
    have hv : v = .int ns[ns.length - 1 - i] t := by
      have hP' : vs[ns.length - 1 - i]? = some v := by simpa using hP
      rw [hx] at hP'; exact (Option.some.inj hP').symm
    subst hv
    have hrv : ns.reverse[i]? = some ns[ns.length - 1 - i] := by
      rw [List.getElem?_reverse hlt']
      simp [hj']
    have N₂ : News h₀ env.locals hh' (news₁ ++ own.filter fun p => decide (p.1 = I)) := fun p hp => N₁ p ((List.mem_append.mp hp).elim (fun h => List.mem_append.mpr (.inr h)) fun h => List.mem_append.mpr (.inl ((List.mem_filter.mp h).1)))
    have hlo : hh'.get? l = some (listOf vs.toArray nn) := (N₁ _ (List.mem_append.mpr (.inr hl₁))).1
    refine wpAny_mono (turn i _ t m₁ news₁ hh' tk' _ hrv hadr hsep hl₁ hJ F₁ N₂) (fun f s₂ p => ?_) fun _ _ e => e
    have fin : InvEndN h₀ env.locals (fun m' nx => (l, listOf vs.toArray nn) ∈ nx ∧ J (i + 1) m' nx) (own.filter fun p => decide (p.1 = I)) (news.map (·.1)) { s with heap := hh', toks := tk' } s₂ →
        LoopStepU h₀ env.locals [I] own (fun m nx => nx.map (·.1) = news.map (·.1) ∧ (l, listOf vs.toArray nn) ∈ nx ∧ J (i + 1) m nx) { s with heap := hh', toks := tk' } .next s₂ := by
      rintro ⟨h', tk, m', news', nx, e, F', N', hn, ho, ha, hm⟩
      refine ⟨rfl, h', tk, m', nx, e, F', fun p hp => ?_, fun p hp => ?_, ha, hm⟩
      · rcases List.mem_append.mp hp with h | h
        · by_cases hI' : p.1 = I
          · exact N' p (ho p (List.mem_filter.mpr ⟨h, by simpa using hI'⟩))
          · have h1 : p.1 = l := by
              rcases List.mem_cons.mp (hown p h) with h2 | h2
              · exact absurd h2 hI'
              · exact List.mem_singleton.mp h2
            have h2 : hh'.get? p.1 = some p.2 := hget p h
            rw [h1, hlo] at h2
            have h3 : p = (l, listOf vs.toArray nn) := Prod.ext h1 (Option.some.inj h2).symm
            rw [h3]
            exact N' _ (hn _ hm.1)
        · exact N' p (hn p h)
      · have h1 : p.1 ∈ nx.map (·.1) := List.mem_map.mpr ⟨p, hp, rfl⟩
        rw [ha] at h1
        obtain ⟨q, hq, e⟩ := List.mem_map.mp h1
        intro hI'
        exact absurd (hI q hq) (by rw [e, List.mem_singleton.mp hI']; exact Nat.lt_irrefl _)
    cases f with
    | ret v => exact .ret p
    | brk => exact .brk p
    | next => exact .next (fin p)
    | cont => exact .cont (fin p)
  · rintro h' tk m' news' F' N' _ ⟨ha, hl', hJ⟩
    exact done m' news' h' tk ha hl' hJ F' N'
end

end
theorem marks_Div2 : True := by
  w_on
  w_top off
  k_with_none
  trivial
section
section
variable {prog : Program} {w : World} {s : Shared} {R : Result → Shared → Prop} {p : Program} {loose : List Str} {mean : ExcName → Option Value} {mg mb : Str → Option Value} {h00 : Heap}
theorem fmod_nat (x y : Nat) : (x : Int).fmod (y : Int) = ((x % y : Nat) : Int) := by
  rw [Int.fmod_eq_emod_of_nonneg _ (by omega)]; rfl
/-- a pair of two numbers -/
def IsPair (h h' : Heap) (l : Addr) (a b : Int) : Prop := Keeps h h' ∧ h.objs.size ≤ l ∧ ∃ t u, h'.get? l = some { cls := .type "tuple", data := .seq #[.int a t, .int b u] }
theorem led_pair {g h h' : Heap} {L l : Addr} {m : Str → Option Value} {news : List (Addr × Obj)} {a b : Int} (F : Fr g L h m) (N : News g L h news) (x : IsPair h h' l a b) :
    ∃ t u, Fr g L h' m ∧ News g L h' ((l, { cls := .type "tuple", data := .seq #[.int a t, .int b u] }) :: news) ∧ (∀ p ∈ news, p.1 < l) ∧ @LT.lt Nat _ L l := by
  obtain ⟨hk, ha, t, u, hl⟩ := x
  have hll := Nat.lt_of_lt_of_le F.ns.lt ha
  refine ⟨t, u, fr_keeps F hk, ?_, (fun p hp => Nat.lt_of_lt_of_le (Heap.lt_size (N p hp).1) ha), hll⟩
  refine news_cons ⟨hl, Ne.symm (Nat.ne_of_lt hll), ?_⟩ (news_keeps N hk)
  cases q : g.get? l with
  | none => rfl
  | some o => have := F.keep _ _ q; rw [Heap.get?_none_of_le ha] at this; cases this
theorem div2_spec {dp un : Nat} {fr : Option (List Env)} {gd : Option (List Code)} {a b n : Nat} {ta tb tn : Tok}
    (X : (hd.heap_39 w.params).In s.heap) (T : Top p loose mean mg mb s.heap) (hdp : dp + 5 < recursionLimit) (hun : un + 50 < cLine)
    (ha : a < 2 ^ 4000) (hb0 : 0 < b) (hb : b < 2 ^ 200)
    (h : ∀ l' h' tk, IsPair s.heap h' l' ((a / b : Nat) : Int) ((a % b : Nat) : Int) → R (.ok (.ret (.ref l'))) { s with heap := h', toks := tk }) :
    codeAny (model prog w) (Ar dp un fr gd) (.call (.ref 51) ⟨[.int (a : Int) ta, .int (b : Int) tb, .int (n : Int) tn], []⟩) R s := by
  have hfill : PySem.Challenge.rw_ty0019_01 = PySem.Challenge.rw_ty0019_01 := rfl
  revert hfill X
  k_fill
  intro X hfill
  clear hfill
  refine' enter_plain [] X T ?k6 ?k7 ?k8 ?k9 ?kB ?_ ?c5 ?c2 ?c3 ?c4
  (case k6 => k_is)
  (case k7 => k_is)
  (case k8 => show dp < recursionLimit; omega)
  (case k9 => exact BindsTo.of_eq rfl)
  (case c5 => decide)
  (case kB => exact locs rfl)
  (case c2 => exact rfl)
  (case c3 => exact rfl)
  (case c4 => exact rfl)
  intro L' h₁ F hk₁ hL
  try dsimp only
  change Fr s.heap _ _ _ at F
  have N : News s.heap L' h₁ [] := News.nil
  try k_fold
  k_with_none
  have hbits := intBits_le ha
  walk_at "m steps"
  have hlog : ((b : Int)).natAbs.log2 < 9000 := by
    rw [Int.natAbs_natCast]
    exact (Nat.log2_lt (by omega)).mpr (Nat.lt_of_lt_of_le hb (Nat.pow_le_pow_right (by decide) (by decide)))
  refine divmod_N F N (by omega) ?_ (.inl (PyProof.noPylong_of_log2 hlog))
  intro h2 F2 N2
  rw [fdiv_nat, fmod_nat] at N2
  show R (.ok (.ret _)) _
  exact h _ _ _ ⟨F2.keep, Nat.le_trans (Nat.le_of_eq hL.symm) (Nat.le_of_lt F.ns.lt), _, _, (N2 _ (.head _)).1⟩
end

end
theorem marks_DivP : True := by
  w_on
  w_top off
  k_with_none
  trivial
section
theorem valN_digN (n : Nat) : ∀ k x, x < 2 ^ (k * n) → valN n (digN n k x) = x
  | 0, x, h => by simp [digN, valN] at h ⊢; omega
  | k + 1, x, h => by
    rw [digN_succ, valN, valN_digN n k]
    · have := Nat.div_add_mod x (2 ^ n); omega
    · rw [Nat.div_lt_iff_lt_mul (Nat.two_pow_pos n), ← Nat.pow_add, ← Nat.succ_mul]; exact h
theorem digN_lt (n : Nat) : ∀ k x, ∀ d ∈ digN n k x, d < 2 ^ n
  | 0, x, d, h => by simp [digN] at h
  | k + 1, x, d, h => by
    rw [digN_succ] at h
    rcases List.mem_cons.mp h with rfl | h
    · exact Nat.mod_lt _ (Nat.two_pow_pos n)
    · exact digN_lt n k _ d h
theorem fr_led {g h h' : Heap} {L : Addr} {m : Str → Option Value} (F : Fr g L h m) (k : Keeps h h') : Fr g L h' m := fr_keeps F k
/-- a fresh list laid on the ledger -/
theorem led_new {g h h' : Heap} {L l : Addr} {m : Str → Option Value} {news : List (Addr × Obj)} {ns : List Int} (F : Fr g L h m) (N : News g L h news) (x : NewList h h' l ns) (ha : h.objs.size ≤ l) :
    ∃ A n, Fr g L h' m ∧ News g L h' ((l, listOf A n) :: news) ∧ IntsAre A.toList ns ∧ (∀ p ∈ news, p.1 < l) := by
  obtain ⟨hk, hf, A, n, hl, hi⟩ := x
  refine ⟨A, n, fr_keeps F hk, ?_, hi, fun p hp => Nat.lt_of_lt_of_le (Heap.lt_size (N p hp).1) ha⟩
  refine news_cons ⟨hl, Ne.symm (Nat.ne_of_lt (Nat.lt_of_lt_of_le F.ns.lt ha)), ?_⟩ (news_keeps N hk)
  cases q : g.get? l with
  | none => rfl
  | some o => have := F.keep _ _ q; rw [hf] at this; cases this
theorem frame4 {m : Str → Option Value} {a b c d : Str} {v1 v2 v3 v4 : Option Value} (h1 : m a = v1) (h2 : m b = v2) (h3 : m c = v3) (h4 : m d = v4) :
    ∃ u : Str → Option Value, m = fun y => if y = a then v1 else if y = b then v2 else if y = c then v3 else if y = d then v4 else u y := by
  obtain ⟨u, e⟩ := frame3 h2 h3 h4
  refine ⟨u, funext fun y => ?_⟩
  by_cases e1 : y = a
  · rw [if_pos e1, e1, h1]
  · rw [if_neg e1, e]
theorem drop_pred {ds : List Nat} {i : Nat} {d : Int} (h : (ds.map Int.ofNat).reverse[i]? = some d) : i < ds.length ∧ ∃ e : Nat, d = (e : Int) ∧ e ∈ ds ∧ ds.drop (ds.length - (i + 1)) = e :: ds.drop (ds.length - i) := by
  have hi : i < ds.length := by
    have := (List.getElem?_eq_some_iff.mp h).1
    simpa using this
  refine ⟨hi, ?_⟩
  rw [List.getElem?_reverse (by simpa using hi), List.getElem?_map, List.length_map] at h
  have hj : ds.length - 1 - i < ds.length := by omega
  rw [List.getElem?_eq_getElem hj] at h
  refine ⟨ds[ds.length - 1 - i], (Option.some.inj h).symm, List.getElem_mem _, ?_⟩
  have e := List.drop_eq_getElem_cons hj
  rw [show ds.length - 1 - i + 1 = ds.length - i by omega] at e
  rw [← e, show ds.length - 1 - i = ds.length - (i + 1) by omega]
def DivJ (lq l3 : Addr) (o3 : Obj) (b n : Nat) (ds : List Nat) (i : Nat) (m : Str → Option Value) (nx : List (Addr × Obj)) : Prop :=
  ∃ (qs : List Nat) (r : Nat) (A : Array Value) (n' : Nat) (t1 t2 t3 : Tok), nx = [(lq, listOf A n'), (l3, o3)] ∧ IntsAre A.toList (qs.map Int.ofNat) ∧ qs.length = i ∧
    m "n" = some (.int (n : Int) t1) ∧ m "b" = some (.int (b : Int) t2) ∧ m "r" = some (.int (r : Int) t3) ∧ m "q_digits" = some (.ref lq) ∧
    (∀ q ∈ qs, q < 2 ^ n) ∧ r < b ∧ valN n qs.reverse * b + r = valN n (ds.drop (ds.length - i))
section
variable {prog : Program} {w : World} {s : Shared} {R : Result → Shared → Prop} {p : Program} {loose : List Str} {mean : ExcName → Option Value} {mg mb : Str → Option Value} {h00 : Heap}
theorem divPos_spec {dp un : Nat} {fr : Option (List Env)} {gd : Option (List Code)} {a b n cnt : Nat} {ta tb : Tok}
    (W : W0 w p loose mean mg mb h00) (hk0 : Keeps h00 s.heap) (hI : TabI s.heap) (hD : TabD s.heap)
    (hdp : dp + 200 < recursionLimit) (hun : un + 100 < cLine)
    (hb0 : 0 < b) (hn : Builtin.Int.intBits (b : Int) = n) (hn1 : 1 ≤ n) (hn2 : n ≤ 190) (hbn : b < 2 ^ n)
    (hc : (Builtin.Int.intBits (a : Int) + n - 1) / n = cnt) (hc40 : cnt ≤ 12) (hx : a < 2 ^ (cnt * n)) (hx0 : 0 < a) (hcnt : 0 < cnt)
    (h : ∀ l' h' tk, IsPair s.heap h' l' ((a / b : Nat) : Int) ((a % b : Nat) : Int) → R (.ok (.ret (.ref l'))) { s with heap := h', toks := tk }) :
    codeAny (model prog w) (Ar dp un fr gd) (.call (.ref 79) ⟨[.int (a : Int) ta, .int (b : Int) tb], []⟩) R s := by
  have X := W.X.keeps hk0
  have T := W.T.keeps hk0
  have hfill : PySem.Challenge.rw_ty0019_01 = PySem.Challenge.rw_ty0019_01 := rfl
  revert hfill X
  k_fill
  intro X hfill
  clear hfill
  refine' enter_plain [] X T ?k6 ?k7 ?k8 ?k9 ?kB ?_ ?c5 ?c2 ?c3 ?c4
  (case k6 => k_is)
  (case k7 => k_is)
  (case k8 => show dp < recursionLimit; omega)
  (case k9 => exact BindsTo.of_eq rfl)
  (case c5 => decide)
  (case kB => exact locs rfl)
  (case c2 => exact rfl)
  (case c3 => exact rfl)
  (case c4 => exact rfl)
  intro L' h₁ F hk₁ hL
  try dsimp only
  change Fr s.heap _ _ _ at F
  have N : News s.heap L' h₁ [] := News.nil
  try k_fold
  k_with_none
  k_with "m call" => (refine hold_out ?_)
  k_with "pyIter ref" => (refine hold_out ?_)
  k_with "InvEndN" => (refine Hold.out ?_)
  walk_at "m steps"
  refine hold_intro ?_
  rename_i h2 F2 N2
  try dsimp only
  rw [hn]
  refine wpAny_call ?_
  refine int2_hit (prog := prog) W (fun b o e => F2.keep _ _ (hk0 _ _ e)) (hI.keeps F2.keep) (by show dp + 1 + 100 < recursionLimit; omega) hn1 (by omega) hc (by omega) hx hx0 hcnt ?_
  intro l3 h3 tk3 ha3 NL3
  obtain ⟨A3, n3, F3, N3, hi3, hlt3⟩ := led_new F2 N2 NL3 ha3
  have hl3' := Nat.lt_of_lt_of_le F2.ns.lt ha3
  clear F2 N2 NL3
  obtain ⟨vs3, rfl⟩ : ∃ vs : List Value, A3 = vs.toArray := ⟨A3.toList, by simp⟩
  have hl3 : @LT.lt Nat _ L' l3 := hl3'
  try dsimp only
  rw [hn] at F3
  walk_at "m steps"
  refine hold_intro ?_
  rename_i lq hlq _ _ lI h4 F4 N4 hlI
  refine' iter_revN (DivJ lq l3 (listOf vs3.toArray n3) b n (digN n cnt a)) ?k1 (by k_mem) hi3 F4 N4 ?k2 ?k3 ?turn ?done
  (case k1 => exact rfl)
  (case k2 =>
    intro p hp
    simp only [List.mem_cons, List.not_mem_nil, or_false] at hp
    rcases hp with rfl | rfl
    · exact hlI.1
    · exact hlI.2)
  (case k3 => exact ⟨[], 0, _, _, _, _, _, rfl, .nil, rfl, rfl, rfl, rfl, rfl, (by simp), hb0, (by simp [valN])⟩)
  case turn =>
    rintro i d t m₁ nx₁ hh tk own hd' _ hoff hl₁ ⟨qs, r, A, n', t1, t2, t3, rfl, hA, hql, h1, h2, h3', h4', hqs, hrb, hval⟩ F₁ N₁
    obtain ⟨u, rfl⟩ := frame4 h1 h2 h3' h4'
    clear h1 h2 h3' h4'
    obtain ⟨hi', e, rfl, hem, hdrop⟩ := drop_pred hd'
    rw [digN_length] at hi'
    have he := digN_lt n cnt a e hem
    have hsz : A.size ≤ 12 := by
      have := hA.length
      simp only [List.length_map, Array.length_toList] at this
      omega
    dsimp only [List.map_cons, List.map_nil, List.cons_append, List.nil_append] at F₁ N₁ hoff ⊢
    try k_fold
    k_with "m lshift" => (refine hold_out ?_)
    walk_at "m steps"
    refine hold_intro ?_
    refine m_lshift rfl rfl ?b1 ?b2 ?_
    (case b1 => refine Nat.lt_of_lt_of_le hrb (Nat.le_trans (Nat.le_of_lt hbn) (Nat.pow_le_pow_right (by decide) (by omega))))
    (case b2 => omega)
    try dsimp only
    walk_at "m steps"
    refine hold_intro ?_
    rw [← Int.natCast_add]
    have hbig : r * 2 ^ n + e < b * 2 ^ n := by
      have h5 : (r + 1) * 2 ^ n ≤ b * 2 ^ n := Nat.mul_le_mul_right _ hrb
      rw [Nat.succ_mul] at h5
      omega
    have hbig2 : r * 2 ^ n + e < 2 ^ 4000 := by
      refine Nat.lt_of_lt_of_le hbig (Nat.le_trans (Nat.mul_le_mul_right _ (Nat.le_of_lt hbn)) ?_)
      rw [← Nat.pow_add]
      exact Nat.pow_le_pow_right (by decide) (by omega)
    rename Fr _ _ _ _ => F5
    rename News _ _ _ _ => N5
    refine wpAny_call ?_
    refine div2_spec (prog := prog) (X.keeps F5.keep) (T.keeps F5.keep) (by show dp + 1 + 5 < recursionLimit; omega) (by show un + 3 + 50 < cLine; omega) hbig2 hb0 (Nat.lt_of_lt_of_le hbn (Nat.pow_le_pow_right (by decide) (by omega))) ?_
    intro lp h6 tk6 P6
    obtain ⟨tu, tv, F6, N6, hp6, hLp⟩ := led_pair F5 N5 P6
    clear F5 N5 P6
    have hp7 : @LT.lt Nat _ lq lp := hp6 _ (.head _)
    have hp8 : @LT.lt Nat _ l3 lp := hp6 _ (.tail _ (.head _))
    clear hp6
    try dsimp only
    have hq1 : (r * 2 ^ n + e) / b < 2 ^ n := (Nat.div_lt_iff_lt_mul hb0).mpr (by rw [Nat.mul_comm (2 ^ n) b]; exact hbig)
    have hr1 : (r * 2 ^ n + e) % b < b := Nat.mod_lt _ hb0
    have hv1 := Nat.div_add_mod (r * 2 ^ n + e) b
    generalize (r * 2 ^ n + e) / b = q1 at *
    generalize (r * 2 ^ n + e) % b = r1 at *
    walk_at "m steps"
    refine Hold.intro ?_
    refine InvEndN.intro (nx := [(lq, listOf (A.push (.int (q1 : Int) tu)) (n' + 1)), (l3, listOf vs3.toArray n3)]) (by assumption) (by assumption) ?kj rfl ?km ?ko
    (case kj =>
      refine ⟨.tail _ (.head _), qs ++ [q1], r1, _, _, t1, t2, tv, rfl, ints_eq (ints_push hA) (by simp), (by rw [List.length_append, hql]; rfl), rfl, rfl, rfl, rfl, ?_, hr1, ?_⟩
      · intro q hq
        rcases List.mem_append.mp hq with hq | hq
        · exact hqs q hq
        · rw [List.mem_singleton.mp hq]; exact hq1
      · rw [List.reverse_append, List.reverse_singleton, List.singleton_append, valN, hdrop, valN, ← hval]
        generalize valN n qs.reverse = V
        generalize 2 ^ n = P at hv1
        have e1 : P * (V * b + r) = P * V * b + r * P := by rw [Nat.mul_add, Nat.mul_assoc, Nat.mul_comm r P]
        have e2 : (q1 + P * V) * b = b * q1 + P * V * b := by rw [Nat.add_mul, Nat.mul_comm q1 b]
        rw [e1, e2]
        omega)
    (case km =>
      intro p hp
      simp only [List.mem_cons, List.not_mem_nil, or_false] at hp
      rcases hp with rfl | rfl
      · k_mem
      · k_mem)
    (case ko => intro p hp; k_ownIn)
  case done =>
    rintro m₁ nx₁ hh tk hadr hl₁ ⟨qs, r, A, n', t1, t2, t3, rfl, hA, hql, h1, h2, h3', h4', hqs, hrb, hval⟩ F₁ N₁
    obtain ⟨u, rfl⟩ := frame4 h1 h2 h3' h4'
    clear h1 h2 h3' h4'
    rw [List.length_map, digN_length] at hql
    rw [List.length_map, digN_length, Nat.sub_self, List.drop_zero, valN_digN n cnt a hx] at hval
    have hsz : A.size ≤ 12 := by
      have := hA.length
      simp only [List.length_map, Array.length_toList] at this
      omega
    dsimp only
    try k_fold
    k_with "m call" => (refine hold_out ?_)
    walk_at "m steps"
    rename Fr _ _ _ _ => F5
    rename News _ _ _ _ => N5
    try dsimp only
    refine m_reverse F5 N5 (by k_upd) (by omega) ?_
    clear F5 N5
    intro h5 F5 N5
    try dsimp only
    walk_at "m steps"
    refine hold_intro ?_
    rename Fr _ _ _ _ => F6
    rename News _ _ _ _ => N6
    have hAr : IntsAre A.toList.reverse (qs.reverse.map Int.ofNat) := by rw [List.map_reverse]; exact hA.reverse
    have hlr := N6.isList (by k_mem : (lq, listOf A.reverse n') ∈ _)
    rw [show A.reverse = A.toList.reverse.toArray by apply Array.toList_inj.mp; simp] at hlr
    refine wpAny_call ?_
    refine dig2_hit (prog := prog) W (fun b o e => F6.keep _ _ (hk0 _ _ e)) (hD.keeps F6.keep) (by show dp + 1 + 100 < recursionLimit; omega) hn1 (by omega) hlr hAr (fun q hq => hqs q (List.mem_reverse.mp hq)) (by rw [List.length_reverse, hql]; omega) (by rw [List.length_reverse, hql]; omega) ?_
    intro h7 tk7 t7 hk7
    have F7 := fr_keeps F6 hk7
    have N7 := news_keeps N6 hk7
    clear F6 N6
    try dsimp only
    have hq : valN n qs.reverse = a / b := by
      rw [← hval, Nat.mul_comm, Nat.mul_add_div hb0, Nat.div_eq_of_lt hrb, Nat.add_zero]
    have hr : r = a % b := by
      rw [← hval, Nat.mul_comm, Nat.mul_add_mod, Nat.mod_eq_of_lt hrb]
    generalize valN n qs.reverse = V at *
    subst hq hr
    walk_at "m steps"
    rename Fr _ _ _ _ => F8
    rename News _ _ _ _ => N8
    rename _ ∧ _ => l8
    refine h _ _ _ ⟨F8.keep, ?_, _, _, (N8 _ (.head _)).1⟩
    rw [← hL]
    exact Nat.le_of_lt (Nat.lt_trans hl3 l8.2)
end

end
theorem marks_IntD : True := by
  w_on
  w_top off
  k_with_none
  trivial
section
section
variable {prog : Program} {w : World} {s : Shared} {R : Result → Shared → Prop} {p : Program} {loose : List Str} {mean : ExcName → Option Value} {mg mb : Str → Option Value} {h00 : Heap}
theorem intDiv_pos {dp un : Nat} {fr : Option (List Env)} {gd : Option (List Code)} {a b n cnt : Nat} {ta tb : Tok}
    (W : W0 w p loose mean mg mb h00) (hk0 : Keeps h00 s.heap) (hI : TabI s.heap) (hD : TabD s.heap)
    (hdp : dp + 210 < recursionLimit) (hun : un + 110 < cLine)
    (hb0 : 0 < b) (hn : Builtin.Int.intBits (b : Int) = n) (hn1 : 1 ≤ n) (hn2 : n ≤ 190) (hbn : b < 2 ^ n)
    (hc : (Builtin.Int.intBits (a : Int) + n - 1) / n = cnt) (hc40 : cnt ≤ 12) (hx : a < 2 ^ (cnt * n)) (hx0 : 0 < a) (hcnt : 0 < cnt)
    (h : ∀ l' h' tk, IsPair s.heap h' l' ((a / b : Nat) : Int) ((a % b : Nat) : Int) → R (.ok (.ret (.ref l'))) { s with heap := h', toks := tk }) :
    codeAny (model prog w) (Ar dp un fr gd) (.call (.ref 86) ⟨[.int (a : Int) ta, .int (b : Int) tb], []⟩) R s := by
  have X := W.X.keeps hk0
  have T := W.T.keeps hk0
  have hfill : PySem.Challenge.rw_ty0019_01 = PySem.Challenge.rw_ty0019_01 := rfl
  revert hfill X
  k_fill
  intro X hfill
  clear hfill
  refine' enter_plain [] X T ?k6 ?k7 ?k8 ?k9 ?kB ?_ ?c5 ?c2 ?c3 ?c4
  (case k6 => k_is)
  (case k7 => k_is)
  (case k8 => show dp < recursionLimit; omega)
  (case k9 => exact BindsTo.of_eq rfl)
  (case c5 => decide)
  (case kB => exact locs rfl)
  (case c2 => exact rfl)
  (case c3 => exact rfl)
  (case c4 => exact rfl)
  intro L' h₁ F hk₁ hL
  try dsimp only
  change Fr s.heap _ _ _ at F
  have N : News s.heap L' h₁ [] := News.nil
  try k_fold
  k_with_none
  k_with "m call" => (refine hold_out ?_)
  walk_at "m steps"
  · exfalso
    omega
  refine hold_intro ?_
  rename Fr _ _ _ _ => F5
  rename News _ _ _ _ => N5
  refine wpAny_call ?_
  refine divPos_spec (prog := prog) W (fun b o e => F5.keep _ _ (hk0 _ _ e)) (hI.keeps F5.keep) (hD.keeps F5.keep) (by show dp + 1 + 200 < recursionLimit; omega) (by show un + 3 + 100 < cLine; omega) hb0 hn hn1 hn2 hbn hc hc40 hx hx0 hcnt ?_
  intro lp h6 tk6 P6
  obtain ⟨tu, tv, F6, N6, hp6, hLp⟩ := led_pair F5 N5 P6
  clear F5 N5 P6
  try dsimp only
  walk_at "m steps"
  refine h _ _ _ ⟨F6.keep, ?_, _, _, (N6 _ (.head _)).1⟩
  rw [← hL]
  exact Nat.le_of_lt hLp
theorem intDiv_neg {dp un : Nat} {fr : Option (List Env)} {gd : Option (List Code)} {x : Int} {a b n cnt : Nat} {ta tb : Tok}
    (W : W0 w p loose mean mg mb h00) (hk0 : Keeps h00 s.heap) (hI : TabI s.heap) (hD : TabD s.heap)
    (hdp : dp + 220 < recursionLimit) (hun : un + 120 < cLine)
    (hxa : x = -(a : Int) - 1)
    (hb0 : 0 < b) (hn : Builtin.Int.intBits (b : Int) = n) (hn1 : 1 ≤ n) (hn2 : n ≤ 190) (hbn : b < 2 ^ n)
    (hc : (Builtin.Int.intBits (a : Int) + n - 1) / n = cnt) (hc40 : cnt ≤ 12) (hx : a < 2 ^ (cnt * n)) (hx0 : 0 < a) (hcnt : 0 < cnt)
    (h : ∀ l' h' tk, IsPair s.heap h' l' (-((a / b : Nat) : Int) - 1) ((b : Int) + (-((a % b : Nat) : Int) - 1)) → R (.ok (.ret (.ref l'))) { s with heap := h', toks := tk }) :
    codeAny (model prog w) (Ar dp un fr gd) (.call (.ref 86) ⟨[.int x ta, .int (b : Int) tb], []⟩) R s := by
  have X := W.X.keeps hk0
  have T := W.T.keeps hk0
  have hfill : PySem.Challenge.rw_ty0019_01 = PySem.Challenge.rw_ty0019_01 := rfl
  revert hfill X
  k_fill
  intro X hfill
  clear hfill
  refine' enter_plain [] X T ?k6 ?k7 ?k8 ?k9 ?kB ?_ ?c5 ?c2 ?c3 ?c4
  (case k6 => k_is)
  (case k7 => k_is)
  (case k8 => show dp < recursionLimit; omega)
  (case k9 => exact BindsTo.of_eq rfl)
  (case c5 => decide)
  (case kB => exact locs rfl)
  (case c2 => exact rfl)
  (case c3 => exact rfl)
  (case c4 => exact rfl)
  intro L' h₁ F hk₁ hL
  try dsimp only
  change Fr s.heap _ _ _ at F
  have N : News s.heap L' h₁ [] := News.nil
  try k_fold
  k_with_none
  k_with "m call" => (refine hold_out ?_)
  walk_at "m steps"
  · exfalso
    omega
  refine hold_intro ?_
  rename Fr _ _ _ _ => F5
  rename News _ _ _ _ => N5
  have enot : ∀ y : Int, Builtin.bitNot y = -y - 1 := fun y => by unfold Builtin.bitNot; omega
  rw [enot x, show -x - 1 = (a : Int) by omega]
  refine wpAny_call ?_
  refine intDiv_pos (prog := prog) W (fun b o e => F5.keep _ _ (hk0 _ _ e)) (hI.keeps F5.keep) (hD.keeps F5.keep) (by show dp + 1 + 210 < recursionLimit; omega) (by show un + 3 + 110 < cLine; omega) hb0 hn hn1 hn2 hbn hc hc40 hx hx0 hcnt ?_
  intro lp h6 tk6 P6
  obtain ⟨tu, tv, F6, N6, hp6, hLp⟩ := led_pair F5 N5 P6
  clear F5 N5 P6
  try dsimp only
  generalize a / b = V at *
  generalize a % b = r at *
  walk_at "m steps"
  rename Fr _ _ _ _ => F8
  rename News _ _ _ _ => N8
  rename_i D8 _ l8 
  have e8 := (N8 _ (.head _)).1
  rw [enot, enot] at e8
  refine h _ _ _ ⟨F8.keep, ?_, _, _, e8⟩
  rw [← hL]
  exact Nat.le_of_lt (Nat.lt_trans hLp (by omega))
end

end
section
section
variable {prog : Program} {w : World} {A : Around} {E : Value → Shared → Prop} {s : Shared}
/-- next of a list's iterator, an item there -/
theorem special_item {it l : Addr} {i : Nat} {items} {x : Value} {Q : Option Value → Shared → Prop} (hit : s.heap.IsListIter it l i)
    (hl : s.heap.IsList l items) (hx : items[i]? = some x)
    (hQ : ∀ h', h'.IsListIter it l (i + 1) → Heap.SameBut it s.heap h' → Q (some x) { s with heap := h' }) :
    wpAny (model prog w) A (callSpecial? (.ref it) (Str.ofString "__next__")) Q E s := by
  obtain ⟨o, ho, hc, hd⟩ := id hit
  obtain ⟨ol, hol, _, nl, hdl⟩ := hl
  refine wpAny_callSpecial?_slot (name := Str.ofString "__next__") hit.typeIs slot_listiter_next
    (wpAny_call_entry slot_listiter_next hit.typeIs entry_listiter_next ?_ (args_listiter_next _))
  show wpAny _ _ (field (.ref it) 0 >>= _) _ _ s
  refine wpAny_bind (wpAny_field ho hd (x := .ref l) rfl ?_)
  show wpAny _ _ (if (Value.ref l == Value.none) = true then _ else _) _ _ s
  rw [if_neg (show ¬ ((Value.ref l == Value.none) = true) from Bool.false_ne_true)]
  show wpAny _ _ (field (.ref it) 1 >>= _) _ _ s
  refine wpAny_bind (wpAny_field ho hd (x := .int i 0) rfl ?_)
  show wpAny _ _ (seqItems? (.ref l) >>= _) _ _ s
  refine wpAny_bind (wpAny_seqItems hol hdl ?_)
  simp only [Int.toNat_natCast, hx]
  refine wpAny_bind (wpAny_setField ho hd (by simp) (wpAny_pure ⟨x, rfl, hQ _ ?_ (Heap.SameBut.update ..)⟩))
  exact ⟨_, Heap.get?_update_self _ ho (Obj.isFreed_of_fields (Obj.data_mapFields hd _)), (Obj.cls_mapFields ..).trans hc, by
    rw [Obj.data_mapFields hd]; simp [rawInt]⟩
theorem next_item {it l : Addr} {i : Nat} {items} {x : Value} {Q : Value → Shared → Prop} (hit : s.heap.IsListIter it l i)
    (hl : s.heap.IsList l items) (hx : items[i]? = some x)
    (hQ : ∀ h', h'.IsListIter it l (i + 1) → Heap.SameBut it s.heap h' → Q x { s with heap := h' }) :
    wpAny (model prog w) A (call (.builtin "next") [.ref it]) Q E s := by
  refine call_function_entry (by decide +kernel) (by decide +kernel) kdk_entry_next (kdk_args_next _) ?_
  unfold Builtin.«next»
  refine wpAny_bind (m := someArgs "next" 1 2 _) (wpAny_of_eq (a := [Value.ref it]) (by first | rfl | kernel_rfl!) ?_)
  dsimp only
  refine wpAny_bind (wpAny_specialOf (name := Str.ofString "__next__") hit.typeIs slot_listiter_next.lookup ?_)
  refine wpAny_ite_split (fun hab => absurd hab (by decide)) (fun _ => ?_)
  exact wpAny_bind (special_item hit hl hx fun h' a b => wpAny_pure ⟨_, rfl, hQ h' a b⟩)
/-- next of a list's iterator, no item left -/
theorem special_end {it l : Addr} {i : Nat} {items} {Q : Option Value → Shared → Prop} (hh : A.handled = none) (hit : s.heap.IsListIter it l i)
    (hl : s.heap.IsList l items) (hx : items[i]? = none)
    (hQ : ∀ h₁ h' e, Heap.SameBut it s.heap h₁ → (∃ o, h₁.get? it = some o) → Heap.MadeExcOf h₁ h' e (.type "StopIteration") [] → E (.ref e) { s with heap := h' }) :
    wpAny (model prog w) A (callSpecial? (.ref it) (Str.ofString "__next__")) Q E s := by
  obtain ⟨o, ho, hc, hd⟩ := id hit
  obtain ⟨ol, hol, _, nl, hdl⟩ := hl
  refine wpAny_callSpecial?_slot (name := Str.ofString "__next__") hit.typeIs slot_listiter_next
    (wpAny_call_entry slot_listiter_next hit.typeIs entry_listiter_next ?_ (args_listiter_next _))
  show wpAny _ _ (field (.ref it) 0 >>= _) _ _ s
  refine wpAny_bind (wpAny_field ho hd (x := .ref l) rfl ?_)
  show wpAny _ _ (if (Value.ref l == Value.none) = true then _ else _) _ _ s
  rw [if_neg (show ¬ ((Value.ref l == Value.none) = true) from Bool.false_ne_true)]
  show wpAny _ _ (field (.ref it) 1 >>= _) _ _ s
  refine wpAny_bind (wpAny_field ho hd (x := .int i 0) rfl ?_)
  show wpAny _ _ (seqItems? (.ref l) >>= _) _ _ s
  refine wpAny_bind (wpAny_seqItems hol hdl ?_)
  simp only [Int.toNat_natCast, hx]
  refine wpAny_bind (wpAny_rule (wpAny_bind (wpAny_setField ho hd (by simp) ?_)))
  show wpAny _ _ (newExc (.type "StopIteration") [] >>= _) _ _ _
  refine wpAny_bind ?_
  simp only [newExc, newTuple]
  refine wpAny_bind (wpAny_newObj_type ?_ (by size_fits))
  refine wpAny_bind (m := firstArgMember _ _) (wpAny_of_eq (a := Value.none) (by first | rfl | (simp only [firstArgMember]; rfl)) ?_)
  refine wpAny_newObj_type ?_ (by size_fits)
  simp only [raiseNew]
  refine wpAny_bind (wpAny_handled ?_)
  rw [show A.in1.handled = none from hh]
  refine wpAny_bind (wpAny_pure (wpAny_throw ?_))
  refine hQ (s.heap.update it (Obj.mapFields (·.setIfInBounds 0 .none))) _ _ (Heap.SameBut.update ..) ?_ ?_
  · exact ⟨_, Heap.get?_update_self _ ho (Obj.isFreed_of_fields (Obj.data_mapFields hd _))⟩
  · generalize s.heap.update it (Obj.mapFields (·.setIfInBounds 0 .none)) = g
    refine ⟨fun b o e => Heap.get?_push_of_some _ (Heap.get?_push_of_some _ e), Heap.get?_none_of_le (by simp [Heap.size_push]), g.objs.size, Heap.get?_push_size _ rfl, Heap.get?_none_of_le (Nat.le_refl _), ?_⟩
    exact Heap.get?_push_of_some _ (Heap.get?_push_size _ rfl)
theorem next_end {it l : Addr} {i : Nat} {items} {Q : Value → Shared → Prop} (hh : A.handled = none) (hit : s.heap.IsListIter it l i)
    (hl : s.heap.IsList l items) (hx : items[i]? = none)
    (hQ : ∀ h₁ h' e, Heap.SameBut it s.heap h₁ → (∃ o, h₁.get? it = some o) → Heap.MadeExcOf h₁ h' e (.type "StopIteration") [] → E (.ref e) { s with heap := h' }) :
    wpAny (model prog w) A (call (.builtin "next") [.ref it]) Q E s := by
  refine call_function_entry (by decide +kernel) (by decide +kernel) kdk_entry_next (kdk_args_next _) ?_
  unfold Builtin.«next»
  refine wpAny_bind (m := someArgs "next" 1 2 _) (wpAny_of_eq (a := [Value.ref it]) (by first | rfl | kernel_rfl!) ?_)
  dsimp only
  refine wpAny_bind (wpAny_specialOf (name := Str.ofString "__next__") hit.typeIs slot_listiter_next.lookup ?_)
  refine wpAny_ite_split (fun hab => absurd hab (by decide)) (fun _ => ?_)
  exact wpAny_bind (special_end hh hit hl hx hQ)
end

end
theorem marks_Parse : True := by
  w_on
  w_top off
  k_with_none
  trivial
section
local macro_rules | `(tactic| walk_at "exec While") => `(tactic| k_extra "m while")
local macro_rules | `(tactic| walk_at "exec While BinOp") => `(tactic| k_extra "m while")
/-- the signs of one number: all figures but the last with 64 laid on -/
def figs : List Nat → List Int
  | [] => []
  | [d] => [(d : Int)]
  | d :: e :: r => ((d + 64 : Nat) : Int) :: figs (e :: r)
def foldV (ds : List Nat) : Nat := ds.foldl (fun v d => v * 64 + d) 0
section
variable {prog : Program} {w : World} {s : Shared} {R : Result → Shared → Prop} {p : Program} {loose : List Str} {mean : ExcName → Option Value} {mg mb : Str → Option Value} {h00 : Heap}
theorem next_N {A : Around} {E : Value → Shared → Prop} {Q : Value → Shared → Prop} {g : Heap} {L it l : Addr} {m : Str → Option Value} {o : Obj} {i : Nat} {items : Array Value} {x : Value} (F : Fr g L s.heap m) (N : News g L s.heap [(it, o)])
    (hc : o.cls = .type "list_iterator") (hd : o.data = .fields #[.ref l, .int i 0]) (hl : g.IsList l items) (hx : items[i]? = some x)
    (h : ∀ h' o', Fr g L h' m → News g L h' [(it, o')] → o'.cls = .type "list_iterator" → o'.data = .fields #[.ref l, .int ((i + 1 : Nat) : Int) 0] → Q x { s with heap := h' }) :
    wpAny (model prog w) A (call (.builtin "next") [.ref it]) Q E s := by
  have n0 := N _ (.head _)
  refine next_item ⟨o, n0.1, hc, hd⟩ (hl.at fun o e => F.keep _ o e) hx fun h' hit hs => ?_
  obtain ⟨o', e, hc', hd'⟩ := hit
  refine h h' o' (F.change hs n0.2.1 n0.2.2) ?_ hc' hd'
  intro p hp
  rw [List.mem_singleton.mp hp]
  exact ⟨e, n0.2⟩
theorem and63 (d : Nat) (h : d < 64) : d &&& 63 = d := by
  rw [show 63 = 2 ^ 6 - 1 from rfl, Nat.and_two_pow_sub_one_eq_mod]; omega
theorem and63b (d : Nat) (h : d < 64) : (d + 64) &&& 63 = d := by
  rw [show 63 = 2 ^ 6 - 1 from rfl, Nat.and_two_pow_sub_one_eq_mod]; omega
theorem and64 (d : Nat) (h : d < 64) : d &&& 64 = 0 := by
  have : ∀ d < 64, d &&& 64 = 0 := by decide
  exact this d h
theorem and64b (d : Nat) (h : d < 64) : (d + 64) &&& 64 = 64 := by
  have : ∀ d < 64, (d + 64) &&& 64 = 64 := by decide
  exact this d h
theorem and_low (v d : Nat) (h : d < 64) : (v * 64) &&& d = 0 := by
  apply Nat.eq_of_testBit_eq
  intro j
  rw [Nat.testBit_and, show v * 64 = v <<< 6 by rw [Nat.shiftLeft_eq], Nat.testBit_shiftLeft, Nat.zero_testBit]
  by_cases q : 6 ≤ j
  · rw [Nat.testBit_lt_two_pow (Nat.lt_of_lt_of_le (show d < 2 ^ 6 from h) (Nat.pow_le_pow_right (by decide) q))]
    simp
  · simp [q]
theorem or_low (v d : Nat) (h : d < 64) : Builtin.bitOr ((v : Int) * 2 ^ Int.toNat 6) (d : Int) = ((v * 64 + d : Nat) : Int) := by
  rw [show (v : Int) * 2 ^ Int.toNat 6 = ((v * 64 : Nat) : Int) by rw [Int.natCast_mul]; rfl, bitOr_and, bitAnd_nat, and_low _ _ h]
  omega
theorem m_iorN {A : Around} {E : Value → Shared → Prop} {Q : Value → Shared → Prop} {a b : Int} {t u : Tok} {v d : Nat} (ea : a = (v : Int) * 2 ^ Int.toNat 6) (eb : b = (d : Int)) (hd : d < 64)
    (h : Q (.int ((v * 64 + d : Nat) : Int) s.toks) { s with toks := s.toks + 1 }) : wpAny (model prog w) A (inplaceOp .BitOr (.int a t) (.int b u)) Q E s := by
  subst ea eb
  refine ior_int ?_
  rw [or_low _ _ hd]
  exact h
def fig (ds : List Nat) (k : Nat) : Nat := ds.getD k 0 + (if k + 1 = ds.length then 0 else 64)
theorem figs_get {ds : List Nat} {rest cs : List Int} {i k : Nat} (h : cs.drop i = figs ds ++ rest) (hk : k < ds.length) :
    cs[i + k]? = some ((fig ds k : Nat) : Int) := by
  have e : cs[i + k]? = (cs.drop i)[k]? := by rw [List.getElem?_drop]
  rw [e, h]
  clear e h
  induction ds generalizing k with
  | nil => simp at hk
  | cons d r ih =>
    cases r with
    | nil =>
      have : k = 0 := by simp at hk; omega
      subst this
      simp [figs, fig]
    | cons e r =>
      cases k with
      | zero => simp [figs, fig]
      | succ k =>
        have := ih (k := k) (by simpa using hk)
        simp only [figs, List.cons_append, List.getElem?_cons_succ]
        rw [this]
        simp [fig]
theorem fig_and63 {ds : List Nat} (h : ∀ d ∈ ds, d < 64) {k : Nat} (hk : k < ds.length) : fig ds k &&& 63 = ds.getD k 0 := by
  have hd : ds.getD k 0 < 64 := by
    rw [List.getD_eq_getElem?_getD, List.getElem?_eq_getElem hk]
    exact h _ (List.getElem_mem _)
  unfold fig
  split
  · exact and63 _ hd
  · exact and63b _ hd
theorem fig_and64 {ds : List Nat} (h : ∀ d ∈ ds, d < 64) {k : Nat} (hk : k < ds.length) : fig ds k &&& 64 = if k + 1 = ds.length then 0 else 64 := by
  have hd : ds.getD k 0 < 64 := by
    rw [List.getD_eq_getElem?_getD, List.getElem?_eq_getElem hk]
    exact h _ (List.getElem_mem _)
  unfold fig
  split
  · exact and64 _ hd
  · exact and64b _ hd
theorem foldV_take {ds : List Nat} {k : Nat} (hk : k < ds.length) : foldV (ds.take (k + 1)) = foldV (ds.take k) * 64 + ds.getD k 0 := by
  unfold foldV
  rw [List.take_add_one, List.getElem?_eq_getElem hk, Option.toList_some, List.foldl_append, List.getD_eq_getElem?_getD, List.getElem?_eq_getElem hk]
  rfl
theorem foldV_lt {ds : List Nat} (h : ∀ d ∈ ds, d < 64) : foldV ds < 64 ^ ds.length := by
  have key : ∀ (l : List Nat), (∀ d ∈ l, d < 64) → ∀ v n, v < 64 ^ n → l.foldl (fun v d => v * 64 + d) v < 64 ^ (n + l.length) := by
    intro l
    induction l with
    | nil => intro _ v n hv; simpa using hv
    | cons d r ih =>
      intro hl v n hv
      rw [List.foldl_cons, List.length_cons, show n + (r.length + 1) = (n + 1) + r.length by omega]
      refine ih (fun x hx => hl x (.tail _ hx)) _ _ ?_
      have := hl d (.head _)
      rw [Nat.pow_succ]
      omega
  have := key ds h 0 0 (by decide)
  simpa [foldV] using this
def ParJ (it l : Addr) (i : Nat) (ds : List Nat) (n : Nat) (m : Str → Option Value) (nx : List (Addr × Obj)) : Prop :=
  ∃ (k : Nat) (o : Obj) (tb tv : Tok), nx = [(it, o)] ∧ o.cls = .type "list_iterator" ∧ o.data = .fields #[.ref l, .int ((i + k + 1 : Nat) : Int) 0] ∧ k < ds.length ∧ n = ds.length - k ∧
    m "b" = some (.int (fig ds k : Nat) tb) ∧ m "val" = some (.int (foldV (ds.take (k + 1)) : Nat) tv) ∧ m "iterator" = some (.ref it)
theorem parse_spec {dp un : Nat} {fr : Option (List Env)} {gd : Option (List Code)} {it l : Addr} {i : Nat} {vs : List Value} {cs rest : List Int} {ds : List Nat}
    (X : (hd.heap_39 w.params).In h00) (T : Top p loose mean mg mb h00) (hk0 : Keeps h00 s.heap) (hit0 : h00.get? it = none)
    (hdp : dp + 20 < recursionLimit) (hun : un + 50 < cLine)
    (hit : s.heap.IsListIter it l i) (hl : s.heap.IsList l vs.toArray) (hi : IntsAre vs cs) (hcs : cs.drop i = figs ds ++ rest) (hds : ∀ d ∈ ds, d < 64) (hd0 : 0 < ds.length) (hd9 : ds.length ≤ 9)
    (h : ∀ h' tk t, (∀ b o, b ≠ it → s.heap.get? b = some o → h'.get? b = some o) → h'.IsListIter it l (i + ds.length) → R (.ok (.ret (.int (foldV ds : Nat) t))) { s with heap := h', toks := tk }) :
    codeAny (model prog w) (Ar dp un fr gd) (.call (.ref 93) ⟨[.ref it], []⟩) R s := by
  have X0 := X
  have T0 := T
  replace X := X.keeps hk0
  replace T := T.keeps hk0
  have hfill : PySem.Challenge.rw_ty0019_01 = PySem.Challenge.rw_ty0019_01 := rfl
  revert hfill X
  k_fill
  intro X hfill
  clear hfill
  refine' enter_plain [it] X T ?k6 ?k7 ?k8 ?k9 ?kB ?_ ?c5 ?c2 ?c3 ?c4
  (case k6 => k_is)
  (case k7 => k_is)
  (case k8 => show dp < recursionLimit; omega)
  (case k9 => exact BindsTo.of_eq rfl)
  (case c5 => decide)
  (case kB => exact locs rfl)
  (case c2 => exact rfl)
  (case c3 => exact rfl)
  (case c4 => exact rfl)
  intro L' h₁ F hk₁ hL
  try dsimp only
  obtain ⟨oit, hoit, hoc, hod⟩ := id hit
  obtain ⟨ol, hol, hlc, hld⟩ := id hl
  have hlit : l ≠ it := fun q => by rw [q, hoit] at hol; cases hol; rw [hoc] at hlc; exact absurd (Value.type.inj hlc) (by decide)
  change Fr (hideAll s.heap [it]) _ _ _ at F
  have kg : Keeps h00 (hideAll s.heap [it]) := fun b o e => hideAll_get _ (hk0 _ _ e) fun q => by rw [List.mem_singleton.mp q, hit0] at e; cases e
  have Xg := X0.keeps kg
  have Tg := T0.keeps kg
  have keepsOf : ∀ {h' : Heap} {m : Str → Option Value}, Fr (hideAll s.heap [it]) L' h' m → ∀ b o, b ≠ it → s.heap.get? b = some o → h'.get? b = some o := fun F' b o hb e => F'.keep b o (hideAll_get _ e (by simpa using hb))
  have hlg : (hideAll s.heap [it]).IsList l vs.toArray := ⟨ol, hideAll_get _ hol (by simpa using hlit), hlc, hld⟩
  have lIt : @LT.lt Nat _ it L' := by have := Heap.lt_size hoit; rw [hL]; exact this
  have N : News (hideAll s.heap [it]) L' h₁ [(it, oit)] := news_cons ⟨hk₁ _ _ hoit, Nat.ne_of_lt lIt, hideAll_none _ (by simp)⟩ News.nil
  generalize hideAll s.heap [it] = g at *
  try k_fold
  k_with_none
  k_with "m and" => (refine hold_out ?_)
  walk_at "m steps"
  obtain ⟨t0, hx0⟩ := hi.get (i + 0) _ (figs_get (k := 0) hcs hd0)
  refine next_N F N hoc hod hlg (by simpa using hx0) ?_
  clear F N
  intro h2 o2 F N hoc2 hod2
  try dsimp only
  walk_at "m steps"
  refine hold_intro ?_
  refine and_int ?_
  have e0 : ds.getD 0 0 = foldV (ds.take (0 + 1)) := by rw [foldV_take hd0]; simp [foldV]
  rw [show (63 : Int) = ((63 : Nat) : Int) from rfl, bitAnd_nat, fig_and63 hds hd0, e0]
  k_with "m while" => (refine hold_out ?_)
  walk_at "m steps"
  refine hold_intro ?_
  rename Fr _ _ _ _ => F3
  rename News _ _ _ _ => N3
  refine While_inv2 (ParJ it l i ds) (n₀ := ds.length) F3 N3 ?j0 ?turn ?hE
  case j0 => exact ⟨0, o2, t0, _, rfl, hoc2, hod2, hd0, rfl, rfl, rfl, rfl⟩
  case turn =>
    clear F3 N3 hod2 hoc2 hod hoc
    rintro n m₁ nx hh tk F₁ N₁ ⟨k, o, tb, tv, rfl, hoc, hod, hk, rfl, q1, q2, q3⟩
    obtain ⟨u, rfl⟩ := frame3 q1 q2 q3
    clear q1 q2 q3
    walk_at "m steps"
    refine hold_intro ?_
    refine and_int ?_
    rw [show (64 : Int) = ((64 : Nat) : Int) from rfl, bitAnd_nat, fig_and64 hds hk]
    by_cases hlast : k + 1 = ds.length
    · rw [if_pos hlast]
      walk_at "m steps"
      show R (.ok (.ret _)) _
      rw [List.take_of_length_le (by omega)]
      rename Fr _ _ _ _ => F4
      rename News _ _ _ _ => N4
      exact h _ _ _ (keepsOf F4) ⟨_, (N4 _ (.head _)).1, hoc, by rw [hod, ← hlast]; rfl⟩
    · rw [if_neg hlast]
      have hk1 : k + 1 < ds.length := by omega
      have hv : foldV (ds.take (k + 1)) < 2 ^ 60 := by
        refine Nat.lt_of_lt_of_le (foldV_lt fun d hd => hds d (List.mem_of_mem_take hd)) ?_
        rw [show (64 : Nat) = 2 ^ 6 from rfl, ← Nat.pow_mul]
        refine Nat.pow_le_pow_right (by decide) ?_
        rw [List.length_take]
        omega
      have hvb := intBits_le hv
      walk_at "m steps"
      obtain ⟨t1, hx1⟩ := hi.get (i + (k + 1)) _ (figs_get (k := k + 1) hcs hk1)
      rename Fr _ _ _ _ => F4
      rename News _ _ _ _ => N4
      refine next_N F4 N4 hoc hod hlg (by rw [show i + k + 1 = i + (k + 1) by omega]; simpa using hx1) ?_
      clear F4 N4
      intro h5 o5 F5 N5 hoc5 hod5
      try dsimp only
      walk_at "m steps"
      refine hold_intro ?_
      refine and_int ?_
      have eb : Builtin.bitAnd ((fig ds (k + 1) : Nat) : Int) ((63 : Nat) : Int) = ((ds.getD (k + 1) 0 : Nat) : Int) := by rw [bitAnd_nat, fig_and63 hds hk1]
      have hd : ds.getD (k + 1) 0 < 64 := by
        rw [List.getD_eq_getElem?_getD, List.getElem?_eq_getElem hk1]
        exact hds _ (List.getElem_mem _)
      refine m_iorN (v := foldV (ds.take (k + 1))) (d := ds.getD (k + 1) 0) rfl eb hd ?_
      rw [← foldV_take hk1]
      walk_at "m steps"
      rename Fr _ _ _ _ => F6
      rename News _ _ _ _ => N6
      exact ⟨_, _, _, _, ds.length - (k + 1), rfl, F6, N6, by omega, k + 1, o5, _, _, rfl, hoc5, by rw [hod5, show i + (k + 1) + 1 = i + k + 1 + 1 by omega], hk1, rfl, rfl, rfl, rfl⟩
  case hE => passes_own
end

end
theorem marks_ParE : True := by
  w_on
  w_top off
  k_with_none
  trivial
section
section
variable {prog : Program} {w : World} {s : Shared} {R : Result → Shared → Prop} {p : Program} {loose : List Str} {mean : ExcName → Option Value} {mg mb : Str → Option Value} {h00 : Heap}
/-- _parse_varint at the tape's end -/
theorem parse_end {dp un : Nat} {outer : List Env} {gd : Option (List Code)} {it l : Addr} {i : Nat} {vs : List Value} {nl : Nat} {base : Heap} {oit : Obj} {more : List (Addr × Obj)}
    (X : (hd.heap_39 w.params).In h00) (T : Top p loose mean mg mb h00) (hk0 : Keeps h00 s.heap)
    (hnews : ∀ q ∈ (it, oit) :: more, s.heap.get? q.1 = some q.2 ∧ h00.get? q.1 = none)
    (K : Below (Ar dp un (some outer) gd) base outer (hideAll s.heap (it :: more.map (·.1))))
    (hdp : dp + 20 < recursionLimit) (hun : un + 50 < cLine) (hmi : ∀ q ∈ more, q.1 ≠ it)
    (hoc : oit.cls = .type "list_iterator") (hod : oit.data = .fields #[.ref l, .int i 0]) (hl : (l, listOf vs.toArray nl) ∈ more) (hi : vs[i]? = none)
    (h : ∀ h' e t o tk, RaisedS base (hideAll s.heap (it :: more.map (·.1))) outer e (.type "StopIteration") t [] ((it, o) :: more) h' → (hideAll s.heap (it :: more.map (·.1))).UpToSlots h' → R (.error (.ref e)) { s with heap := h', toks := tk }) :
    codeAny (model prog w) (Ar dp un (some outer) gd) (.call (.ref 93) ⟨[.ref it], []⟩) R s := by
  have X0 := X
  have T0 := T
  replace X := X.keeps hk0
  replace T := T.keeps hk0
  have hfill : PySem.Challenge.rw_ty0019_01 = PySem.Challenge.rw_ty0019_01 := rfl
  revert hfill X
  k_fill
  intro X hfill
  clear hfill
  refine' enter_plain (it :: more.map (·.1)) X T ?k6 ?k7 ?k8 ?k9 ?kB ?_ ?c5 ?c2 ?c3 ?c4
  (case k6 => k_is)
  (case k7 => k_is)
  (case k8 => show dp < recursionLimit; omega)
  (case k9 => exact BindsTo.of_eq rfl)
  (case c5 => decide)
  (case kB => exact locs rfl)
  (case c2 => exact rfl)
  (case c3 => exact rfl)
  (case c4 => exact rfl)
  intro L' h₁ F hk₁ hL
  try dsimp only
  have hoit := (hnews _ (.head _)).1
  change Fr (hideAll s.heap (it :: more.map (·.1))) _ _ _ at F
  have hin : ∀ b, b ∈ it :: more.map (·.1) → ∃ q ∈ (it, oit) :: more, q.1 = b := by
    intro b hb
    rcases List.mem_cons.mp hb with rfl | hb
    · exact ⟨_, .head _, rfl⟩
    · obtain ⟨q, hq, rfl⟩ := List.mem_map.mp hb
      exact ⟨q, .tail _ hq, rfl⟩
  have kg : Keeps h00 (hideAll s.heap (it :: more.map (·.1))) := fun b o e => hideAll_get _ (hk0 _ _ e) fun q => by
    obtain ⟨q, hq, rfl⟩ := hin _ q
    rw [(hnews _ hq).2] at e; cases e
  have Xg := X0.keeps kg
  have Tg := T0.keeps kg
  have N : News (hideAll s.heap (it :: more.map (·.1))) L' h₁ ((it, oit) :: more) := fun q hq => ⟨hk₁ _ _ (hnews q hq).1, Nat.ne_of_lt (by have := Heap.lt_size (hnews q hq).1; rw [hL]; exact this), hideAll_none _ (by
    rcases List.mem_cons.mp hq with rfl | hq
    · exact .head _
    · exact .tail _ (List.mem_map.mpr ⟨q, hq, rfl⟩))⟩
  generalize hideAll s.heap (it :: more.map (·.1)) = g at *
  try k_fold
  k_with_none
  walk_at "m steps"
  refine next_end (items := vs.toArray) rfl ⟨oit, (N _ (.head _)).1, hoc, hod⟩ (N.isList (.tail _ hl)) (by simpa using hi) ?_
  intro h2 h3 e hs ⟨o2, ho2⟩ hm
  have n0 := N _ (.head _)
  have F2 := F.change hs n0.2.1 n0.2.2
  have N2 : News g L' h2 ((it, o2) :: more) := fun q hq => by
    rcases List.mem_cons.mp hq with rfl | hq
    · exact ⟨ho2, n0.2⟩
    · have n1 := N q (.tail _ hq)
      exact ⟨hs.extBut _ _ (hmi q hq) n1.1, n1.2⟩
  try dsimp only
  refine leave_raiseS K hm F2 N2 ?_
  intro h4 t R1 R2 U
  exact h _ _ _ _ _ R1 U
end

end
theorem marks_Read : True := by
  w_on
  w_top off
  k_with_none
  trivial
section
local macro_rules | `(tactic| walk_at "exec While") => `(tactic| k_extra "m while")
local macro_rules | `(tactic| walk_at "eval ListComp") => `(tactic| k_extra "m comp")
local macro_rules | `(tactic| walk_at "exec While Constant bool") => `(tactic| k_extra "m while")
local macro_rules | `(tactic| walk_at "exec While Constant") => `(tactic| k_extra "m while")
theorem signs_ints : ∀ {txt : List Nat} {vs ys : List Value}, vs.length = txt.length → (∀ (j : Nat) (v : Value), vs[j]? = some v → ∃ (c : Nat) (u : Tok), txt[j]? = some c ∧ v = Value.str ⟨#[c]⟩ u) →
    Paired (fun v y => ∃ (c : Nat) (u t : Tok), v = Value.str ⟨#[c]⟩ u ∧ y = Value.int (c : Int) t) vs ys → IntsAre ys (txt.map Int.ofNat)
  | [], vs, ys, hl, _, hp => by
    have : vs = [] := by simpa using hl
    subst this
    cases hp
    exact .nil
  | c :: r, [], ys, hl, _, _ => by simp at hl
  | c :: r, v :: vs, ys, hl, hv, hp => by
    cases hp with
    | cons h1 h2 =>
      obtain ⟨c', u, t, rfl, rfl⟩ := h1
      obtain ⟨c2, u2, e1, e2⟩ := hv 0 _ rfl
      have e3 : c = c2 := by simpa using e1
      have e4 : c' = c2 := by simp at e2; exact e2.1
      subst e3 e4
      exact .cons _ _ (signs_ints (by simpa using hl) (fun j v hj => by simpa using hv (j + 1) v (by simpa using hj)) h2)
theorem iter_N {prog : Program} {w : World} {A : Around} {E : Value → Shared → Prop} {s : Shared} {Q : Value → Shared → Prop} {g : Heap} {L D : Addr} {m : Str → Option Value} {news : List (Addr × Obj)} {its : Array Value} {n : Nat} (F : Fr g L s.heap m) (N : News g L s.heap news)
    (hm : (D, listOf its n) ∈ news)
    (h : ∀ (I : Addr) h', Fr g L h' m → News g L h' ((I, { cls := .type "list_iterator", data := .fields #[.ref D, .int ((0 : Nat) : Int) 0] }) :: news) → (∀ p ∈ news, p.1 < I) → Q (.ref I) { s with heap := h' }) :
    wpAny (model prog w) A (call (.builtin "iter") [.ref D]) Q E s := by
  refine call_function_entry (by decide +kernel) (by decide +kernel) kdk_entry_iter (kdk_args_iter _) ?_
  unfold Builtin.«iter»
  refine wpAny_bind (m := someArgs "iter" 1 2 _) (wpAny_of_eq (a := [Value.ref D]) (by first | rfl | kernel_rfl!) ?_)
  show wpAny _ _ (pyIter (.ref D) >>= _) _ _ _
  refine wpAny_bind (wpAny_pyIter_list (N.isList hm) ?_)
  exact wpAny_pure ⟨_, rfl, h _ _ (F.push _) (News.push F N _ rfl) (fun q hq => Heap.lt_size (N q hq).1)⟩
section
variable {prog : Program} {w : World} {s : Shared} {R : Result → Shared → Prop} {p : Program} {loose : List Str} {mean : ExcName → Option Value} {mg mb : Str → Option Value} {h00 : Heap}
theorem figs_length : ∀ ds : List Nat, (figs ds).length = ds.length
  | [] => rfl
  | [_] => rfl
  | _ :: e :: r => by rw [figs, List.length_cons, List.length_cons, figs_length (e :: r)]
theorem fr_hide {g h : Heap} {L : Addr} {m : Str → Option Value} (F : Fr g L h m) (ids : List Addr) (hL : L ∉ ids) (hn : ∀ b ∈ ids, g.get? b = none) : Fr g L (hideAll h ids) m := by
  obtain ⟨oL, es, ep, hL', hLd, hLk, hLf⟩ := F.ns
  exact ⟨⟨oL, es, ep, hideAll_get _ hL' hL, hLd, hLk, hLf⟩, fun b o e => hideAll_get _ (F.keep b o e) (fun q => by rw [hn _ q] at e; cases e), F.above⟩
theorem fr_but {g h h' : Heap} {L it : Addr} {m : Str → Option Value} (F : Fr g L h m) (kb : ∀ b o, b ≠ it → h.get? b = some o → h'.get? b = some o) (hL : L ≠ it) (hn : g.get? it = none) : Fr g L h' m := by
  obtain ⟨oL, es, ep, hL', hLd, hLk, hLf⟩ := F.ns
  exact ⟨⟨oL, es, ep, kb _ _ hL hL', hLd, hLk, hLf⟩, fun b o e => kb _ _ (fun q => by rw [q, hn] at e; cases e) (F.keep b o e), F.above⟩
theorem isExcStop : isSubtype (.type "StopIteration") (.type "BaseException") = pure true := by rw [isSubtype_type]; kernel_rfl
theorem notTupStop : isSubtype (.type ((Manifest.find? "StopIteration").elim "type" fun y => y.metatype)) (.type "tuple") = pure false := by rw [isSubtype_type]; kernel_rfl
theorem subStop : isSubtype (.type "StopIteration") (.type "StopIteration") = pure true := by rw [isSubtype_type]; kernel_rfl
theorem figs_flat (tss : List (List Nat)) (k : Nat) : ((tss.map figs).flatten).drop (((tss.take k).map figs).flatten.length) = ((tss.drop k).map figs).flatten := by
  have e : (tss.map figs).flatten = ((tss.take k).map figs).flatten ++ ((tss.drop k).map figs).flatten := by
    rw [← List.flatten_append, ← List.map_append, List.take_append_drop]
  rw [e, List.drop_left]
/-- the list of numbers read so far -/
def ReadJ (ln I D : Addr) (ws : List Value) (nD : Nat) (tss : List (List Nat)) (n : Nat) (m : Str → Option Value) (nx : List (Addr × Obj)) : Prop :=
  ∃ (k : Nat) (A : Array Value) (nA : Nat) (oI : Obj), nx = [(ln, listOf A nA), (I, oI), (D, listOf ws.toArray nD)] ∧ oI.cls = .type "list_iterator" ∧
    oI.data = .fields #[.ref D, .int ((((tss.take k).map figs).flatten.length : Nat) : Int) 0] ∧ IntsAre A.toList ((tss.take k).map fun d => ((foldV d : Nat) : Int)) ∧ k ≤ tss.length ∧ n = tss.length - k ∧
    m "numbers" = some (.ref ln) ∧ m "tape" = some (.ref I)
theorem read_spec {dp un : Nat} {outer : List Env} {gd : Option (List Code)} {txt : List Nat} {tt : Tok} {tss : List (List Nat)}
    (X : (hd.heap_39 w.params).In h00) (T : Top p loose mean mg mb h00) (hk0 : Keeps h00 s.heap)
    (K : Below (Ar dp un (some outer) gd) h00 outer s.heap)
    (hdp : dp + 30 < recursionLimit) (hun : un + 60 < cLine) (hlen : txt.length ≤ 4000) (hts : tss.length ≤ 4000) (htx : txt.map Int.ofNat = (tss.map figs).flatten)
    (hds : ∀ ds ∈ tss, (∀ d ∈ ds, d < 64) ∧ 0 < ds.length ∧ ds.length ≤ 9) (hdict : KtsDicts (outer.filterMap (·.frame)) s.heap)
    (h : ∀ g' l' h' tk, KtsTurn (outer.filterMap (·.frame)) s.heap g' → NewList g' h' l' (tss.map fun d => ((foldV d : Nat) : Int)) → R (.ok (.ret (.ref l'))) { s with heap := h', toks := tk }) :
    codeAny (model prog w) (Ar dp un (some outer) gd) (.call (.ref 127) ⟨[.str ⟨txt.toArray⟩ tt], []⟩) R s := by
  have X0 := X
  have T0 := T
  replace X := X.keeps hk0
  replace T := T.keeps hk0
  have hfill : PySem.Challenge.rw_ty0019_01 = PySem.Challenge.rw_ty0019_01 := rfl
  revert hfill X
  k_fill
  intro X hfill
  clear hfill
  refine' enter_plain [] X T ?k6 ?k7 ?k8 ?k9 ?kB ?_ ?c5 ?c2 ?c3 ?c4
  (case k6 => k_is)
  (case k7 => k_is)
  (case k8 => show dp < recursionLimit; omega)
  (case k9 => exact BindsTo.of_eq rfl)
  (case c5 => decide)
  (case kB => exact locs rfl)
  (case c2 => exact rfl)
  (case c3 => exact rfl)
  (case c4 => exact rfl)
  intro L' h₁ F hk₁ hL
  try dsimp only
  change Fr s.heap _ _ _ at F
  have N : News s.heap L' h₁ [] := News.nil
  try k_fold
  k_with_none
  k_with "m call" => (refine hold_out ?_)
  k_with "m comp" => (refine hold_out ?_)
  walk_at "m steps"
  refine hold_intro ?_
  refine' wpAny_ListComp_free (cl := []) (fun _ => true) (fun v y => ∃ c u t, v = .str ⟨#[c]⟩ u ∧ y = .int (c : Int) t) ?d1 ?d2 ?d3 ?d4 ?d5 ?dh ?ds
  (case d1 => rfl)
  (case d2 => decide)
  (case d3 => rfl)
  (case d4 => decide)
  (case d5 => rfl)
  (case ds => intro _; rfl)
  walk_at "m steps"
  refine wpAny_pyIter_str ?_
  intro oI St hW hst
  refine ⟨_, _, _, _, _, _, rfl, hW _ rfl, ?_, hst, ?_, ⟨?_, ?_⟩, ?_⟩
  · rw [sizeLine_eq]; simp; omega
  · intro b hb
    rw [List.mem_singleton.mp hb]
    simp [Heap.size_push]
  · intro C i v s₃ m₃ E' _ _ _ _ _ _
    exact wpAny_pure ⟨rfl, s₃.heap, s₃.toks, rfl, fun _ _ e => e⟩
  · intro C i v s₃ m₃ E' hC hv _ hn hm hk htk
    obtain ⟨c, u, hc, rfl⟩ := hv
    have F6 : Fr h₁ C s₃.heap m₃ := frInComp hn (fun b o e => hk b o (by rw [List.mem_singleton]; exact Nat.ne_of_lt (Heap.lt_size e)) (Heap.get?_push_of_some _ e)) (Nat.le_trans (by simp [Heap.size_push]) hC)
    have X6 := X.keeps hk₁
    have T6 := T.keeps hk₁
    obtain ⟨u6, rfl⟩ := frame1 hm
    have N6 : News h₁ C s₃.heap [] := News.nil
    clear F N
    show wpAny _ _ _ (fun y s₄ => Hold (_ ∧ _)) _ _
    walk_at "m steps"
    all_goals (first | exact Hold.intro ⟨⟨c, u, _, rfl, rfl⟩, s₃.heap, _, rfl, fun _ _ e => e⟩ | exact Str.empty | exact Value.none | exact [] | exact (0 : Nat) | skip)

  · intro D h2 tk2 ys vs hD hlD hpD hvl hP hPair hk2
    have k12 : Keeps h₁ h2 := fun b o e => hk2 b o (by rw [List.mem_singleton]; exact Nat.ne_of_lt (Heap.lt_size e)) (Heap.get?_push_of_some _ e)
    have F2 := fr_keeps F k12
    have hys : IntsAre ys.toList (txt.map Int.ofNat) := signs_ints (by simpa using hvl) (fun j v hj => by
      obtain ⟨c, u, hc, rfl⟩ := hP j v hj
      exact ⟨c, u, by simpa using hc, rfl⟩) (by rw [List.filter_eq_self.mpr (fun _ _ => rfl)] at hPair; exact hPair)
    obtain ⟨nD, hDo⟩ := hpD
    obtain ⟨ws, rfl⟩ : ∃ ws : List Value, ys = ws.toArray := ⟨ys.toList, by simp⟩
    have hDn : s.heap.get? D = none := by
      cases q : s.heap.get? D with
      | none => rfl
      | some o =>
        have := Heap.get?_push_of_some oI (hk₁ _ _ q)
        rw [show (h₁.push oI).get? D = none from hD] at this
        cases this
    have hDL : D ≠ L' := fun q => by
      obtain ⟨o, ho⟩ : ∃ o, h₁.get? L' = some o := let ⟨o, _, _, ho, _⟩ := F.ns; ⟨o, ho⟩
      have := Heap.get?_push_of_some oI ho
      rw [← q, show (h₁.push oI).get? D = none from hD] at this
      cases this
    have N2 : News s.heap L' h2 [(D, listOf ws.toArray nD)] := news_cons ⟨hDo, hDL, hDn⟩ News.nil
    clear F N
    try dsimp only
    walk_at "m steps"
    refine iter_N F2 N2 (.head _) ?_
    clear F2 N2
    intro I h3 F3 N3 l3
    replace l3 : @LT.lt Nat _ D I := l3 _ (.head _)
    try dsimp only
    walk_at "m steps"
    refine wpAny_Try_except ?_
    k_with "m while" => (refine hold_out ?_)
    walk_at "m steps"
    refine hold_intro ?_
    rename Fr _ _ _ _ => F5
    rename News _ _ _ _ => N5
    rename @And (@LT.lt Nat _ _ _) _ => lnlt
    rename_i ln hB hC
    refine While_inv2 (ReadJ ln I D ws nD tss) (n₀ := tss.length) F5 N5 ?j0 ?turn ?hE
    case j0 => exact ⟨0, _, 0, _, rfl, rfl, rfl, IntsAre.nil, Nat.zero_le _, rfl, rfl, rfl⟩
    case hE => passes_own
    case turn =>
      clear F5 N5
      rintro n m₁ nx hh tk5 F₁ N₁ ⟨k, A, nA, oI, rfl, hoc, hod, hIA, hk, rfl, q1, q2⟩
      obtain ⟨u, rfl⟩ := frame2 q1 q2
      clear q1 q2
      walk_at "m steps"
      refine hold_intro ?_
      rename Fr _ _ _ _ => F6
      rename News _ _ _ _ => N6
      have nln := N6 _ (.head _)
      have nI := N6 _ (.tail _ (.head _))
      have nD' := N6 _ (.tail _ (.tail _ (.head _)))
      have k0 : Keeps h00 s.heap := hk0
      have hI0 : h00.get? I = none := kts_none k0 nI.2.2
      have hln0 : h00.get? ln = none := kts_none k0 nln.2.2
      have hD0 : h00.get? D = none := kts_none k0 nD'.2.2
      have hIln : ln ≠ I := Nat.ne_of_gt lnlt.1
      have hDI : D ≠ I := Nat.ne_of_lt l3
      refine wpAny_call ?_
      by_cases hlast : k = tss.length
      · have hpos : (((tss.take k).map figs).flatten.length) = ws.length := by
          rw [List.take_of_length_le (by omega), ← htx]
          have := hys.length
          simpa using this.symm
        have Fh := fr_hide F6 [I, ln, D] (by
          intro q
          rcases List.mem_cons.mp q with q | q
          · exact nI.2.1 q.symm
          rcases List.mem_cons.mp q with q | q
          · exact nln.2.1 q.symm
          · exact nD'.2.1 (List.mem_singleton.mp q).symm) (by
          intro b q
          rcases List.mem_cons.mp q with rfl | q
          · exact nI.2.2
          rcases List.mem_cons.mp q with rfl | q
          · exact nln.2.2
          · rw [List.mem_singleton.mp q]; exact nD'.2.2)
        refine parse_end (more := [(ln, listOf A nA), (D, listOf ws.toArray nD)]) (base := h00) X0 T0 (fun b o e => F6.keep b o (k0 b o e)) ?hnews (K.push Fh) (by show dp + 1 + 20 < recursionLimit; omega) (by show un + 3 + 50 < cLine; omega) ?hmi hoc hod (.tail _ (.head _)) ?hi ?_
        case hnews =>
          intro q hq
          rcases List.mem_cons.mp hq with rfl | hq
          · exact ⟨nI.1, hI0⟩
          rcases List.mem_cons.mp hq with rfl | hq
          · exact ⟨nln.1, hln0⟩
          · rw [List.mem_singleton.mp hq]; exact ⟨nD'.1, hD0⟩
        case hmi =>
          intro q hq
          rcases List.mem_cons.mp hq with rfl | hq
          · exact hIln
          · rw [List.mem_singleton.mp hq]; exact hDI
        case hi => rw [hpos]; simp
        intro h' e t o tk6 R1 U
        refine caught_S0 (KF := hd.heap_39 w.params) (T' := "StopIteration") (x := "StopIteration") R1 Fh K U X0 T0 hdict KtsTurn.refl ?ex PyProof.Rows.Boot.«StopIteration» ?hn isExcStop notTupStop subStop ?_
        case ex => k_is
        case hn => decide
        intro h6 g' n₂ T' F' N₂ G' N' K' X' P' D'
        walk_at "m steps"
        show R (.ok (.ret _)) _
        rw [List.take_of_length_le (by omega)] at hIA
        exact h g' _ _ _ T' (NewList.of F' N' (.tail _ (.head _)) hIA)
      · have hk1 : k < tss.length := by omega
        obtain ⟨hd64, hd0, hd9⟩ := hds tss[k] (List.getElem_mem _)
        refine parse_spec (ds := tss[k]) (rest := ((tss.drop (k + 1)).map figs).flatten) X0 T0 (fun b o e => F6.keep b o (k0 b o e)) hI0 (by show dp + 1 + 20 < recursionLimit; omega) (by show un + 3 + 50 < cLine; omega) ⟨oI, nI.1, hoc, hod⟩ ⟨_, nD'.1, rfl, nD, rfl⟩ hys ?hcs hd64 hd0 hd9 ?_
        case hcs => rw [htx, figs_flat, List.drop_eq_getElem_cons hk1, List.map_cons, List.flatten_cons]
        intro h7 tk7 t7 kb hit7
        obtain ⟨o7, e7, hc7, hd7⟩ := hit7
        have F7 := fr_but F6 kb (fun q => nI.2.1 q.symm) nI.2.2
        have N7 : News s.heap L' h7 [(ln, listOf A nA), (I, o7), (D, listOf ws.toArray nD)] := by
          intro q hq
          rcases List.mem_cons.mp hq with rfl | hq
          · exact ⟨kb _ _ hIln nln.1, nln.2⟩
          rcases List.mem_cons.mp hq with rfl | hq
          · exact ⟨e7, nI.2⟩
          · rw [List.mem_singleton.mp hq]; exact ⟨kb _ _ hDI nD'.1, nD'.2⟩
        clear N6 F6
        have hAl := hIA.length
        have hAs : A.size ≤ 4000 := by
          rw [List.length_map, List.length_take, Array.length_toList] at hAl
          omega
        try dsimp only
        walk_at "m steps"
        rename Fr _ _ _ _ => F8
        rename News _ _ _ _ => N8
        refine ⟨_, _, _, _, tss.length - (k + 1), rfl, F8, N8, by omega, k + 1, _, _, o7, rfl, hc7, ?_, ?_, by omega, rfl, rfl, rfl⟩
        · rw [hd7, List.take_add_one, List.getElem?_eq_getElem hk1, Option.toList_some, List.map_append, List.flatten_append, List.length_append]
          simp [figs_length]
        · rw [List.take_add_one, List.getElem?_eq_getElem hk1, Option.toList_some, List.map_append]
          exact ints_push hIA
end

end
theorem marks_Text : True := by
  w_on
  w_top off
  k_with_none
  trivial
section
local macro_rules | `(tactic| walk_at "eval ListComp") => `(tactic| k_extra "m comp")
local macro_rules | `(tactic| walk_at "call builtin:list.reverse") => `(tactic| k_extra "m rev")
/-- the figures of a number to the base 64, the highest first -/
def digsOf (n : Nat) : List Nat := (digN 6 ((Builtin.Int.intBits (n : Int) + 6 - 1) / 6) n).reverse
def figsN : List Nat → List Nat
  | [] => []
  | [d] => [d]
  | d :: e :: r => (d + 64) :: figsN (e :: r)
def textN (ns : List Nat) : List Nat := (ns.map fun n => figsN (digsOf n)).flatten
def one (c : Nat) : Str := ⟨#[c]⟩
def TextJ (ls : Addr) (ns : List Nat) (i : Nat) (m : Str → Option Value) (nx : List (Addr × Obj)) : Prop :=
  ∃ (A : Array Value) (n' : Nat), nx = [(ls, listOf A n')] ∧ StrsAre A.toList ((textN (ns.take i)).map one) ∧ A.size ≤ 6 * i ∧
    m "signs" = some (.ref ls)
theorem intBits_eq {x : Nat} (h : 0 < x) : Builtin.Int.intBits (x : Int) = Nat.log2 x + 1 := by
  unfold Builtin.Int.intBits
  rw [if_neg (by simp; omega)]
  simp only [Int.natAbs_natCast]
theorem intBits_pos {x : Nat} (h : 0 < x) : 0 < Builtin.Int.intBits (x : Int) := by rw [intBits_eq h]; omega
theorem intBits_lt {x : Nat} (h : 0 < x) : x < 2 ^ Builtin.Int.intBits (x : Int) := by rw [intBits_eq h]; exact Nat.lt_log2_self
theorem intBits_ge {x : Nat} (h : 0 < x) : 2 ^ (Builtin.Int.intBits (x : Int) - 1) ≤ x := by rw [intBits_eq h]; exact Nat.log2_self_le (by omega)
theorem figsN_snoc : ∀ (l : List Nat) (d : Nat), figsN (l ++ [d]) = l.map (fun x => x + 64) ++ [d]
  | [], d => rfl
  | [e], d => rfl
  | e :: f :: r, d => by
    show (e + 64) :: figsN (f :: r ++ [d]) = _
    rw [figsN_snoc (f :: r) d]
    rfl
theorem figsN_lt {ds : List Nat} (h : ∀ d ∈ ds, d < 64) : ∀ c ∈ figsN ds, c < 128 := by
  induction ds with
  | nil => intro c hc; cases hc
  | cons d r ih =>
    cases r with
    | nil =>
      intro c hc
      have := h d (.head _)
      rw [List.mem_singleton.mp hc]
      omega
    | cons e r =>
      intro c hc
      have := h d (.head _)
      rcases List.mem_cons.mp hc with rfl | hc
      · omega
      · exact ih (fun x hx => h x (.tail _ hx)) c hc
theorem figsN_length : ∀ ds : List Nat, (figsN ds).length = ds.length
  | [] => rfl
  | [_] => rfl
  | _ :: e :: r => by rw [figsN, List.length_cons, List.length_cons, figsN_length (e :: r)]
theorem text_codes {ds : List Nat} (h : 0 < ds.length) :
    (((ds.map Int.ofNat).map (fun c => 64 + c)).set (Int.toNat 0) (((ds.map Int.ofNat).map (fun c => 64 + c)).getD (Int.toNat 0) 0 - 64)).reverse = (figsN ds.reverse).map Int.ofNat := by
  cases ds with
  | nil => simp at h
  | cons d r =>
    rw [List.reverse_cons, figsN_snoc]
    simp only [List.map_cons, Int.toNat_zero, List.set_cons_zero, List.reverse_cons, List.getD_cons_zero, List.map_append, List.map_map, List.map_reverse, List.map_nil, List.append_cancel_left_eq]
    congr 1
    · congr 1
      apply List.map_congr_left
      intro x _
      show 64 + (x : Int) = ((x + 64 : Nat) : Int)
      omega
    · show [64 + (d : Int) - 64] = [(d : Int)]
      congr 1
      omega
theorem news_rev {g h : Heap} {L D : Addr} {nD : Nat} {rest : List (Addr × Obj)} {zs : List Value} (N : News g L h ((D, listOf zs.toArray.reverse nD) :: rest)) : News g L h ((D, listOf zs.reverse.toArray nD) :: rest) := by
  have e : zs.toArray.reverse = zs.reverse.toArray := by apply Array.toList_inj.mp; simp
  rw [e] at N
  exact N
theorem textN_succ {ns : List Nat} {i n : Nat} (h : ns[i]? = some n) : textN (ns.take (i + 1)) = textN (ns.take i) ++ figsN (digsOf n) := by
  unfold textN
  rw [List.take_add_one, h, Option.toList_some, List.map_append, List.flatten_append]
  simp
theorem pack_list {g h : Heap} {L D : Addr} {nD : Nat} {rest : List (Addr × Obj)} {zs : List Value} {xs : List Int} (N : News g L h ((D, listOf zs.toArray nD) :: rest)) (hi : IntsAre zs xs) :
    ∃ zs' : List Value, News g L h ((D, listOf zs'.toArray nD) :: rest) ∧ IntsAre zs' xs := ⟨zs, N, hi⟩
theorem strs_of_pairs : ∀ {vs ys : List Value} {cs : List Nat}, IntsAre vs (cs.map Int.ofNat) → Paired (fun v y => ∃ (c : Nat) (t u : Tok), v = Value.int (c : Int) t ∧ y = Value.str (one c) u) vs ys → StrsAre ys (cs.map one)
  | [], _, cs, h, p => by
    cases p
    cases cs with
    | nil => exact .nil
    | cons c r => cases h
  | v :: vs, _, cs, h, p => by
    cases cs with
    | nil => cases h
    | cons c r =>
      cases h with
      | cons n t h =>
        cases p with
        | cons q p =>
          obtain ⟨c', t', u, e, rfl⟩ := q
          have e2 : c = c' := by
            have := (Value.int.inj e).1
            exact Int.ofNat.inj this
          subst e2
          exact .cons _ _ (strs_of_pairs h p)
theorem join_ones : ∀ (cs : List Nat), Txt.join (Str.ofString "") (cs.map one) = ⟨cs.toArray⟩ := by
  intro cs
  show Builtin.Str.glued _ _ = _
  rw [PySem.StrLaws.glued_eq_join]
  induction cs with
  | nil => rfl
  | cons c r ih =>
    cases r with
    | nil => rfl
    | cons d r =>
      rw [List.map_cons, List.map_cons] at *
      show one c ++ Str.ofString "" ++ Str.join (Str.ofString "") (one d :: r.map one) = _
      rw [ih]
      show (⟨(#[c] ++ _) ++ _⟩ : Str) = _
      congr 1
      apply Array.toList_inj.mp
      simp [Str.ofString]
      rfl
theorem fr_empty {h : Heap} {C : Addr} {m : Str → Option Value} (hn : h.Ns C m) : Fr { objs := #[] } C h m := ⟨hn, fun b o e => (by simp [Heap.get?] at e), Nat.zero_le _⟩
theorem ints_of_pairs {f : Int → Int} : ∀ {vs ys : List Value} {cs : List Int}, IntsAre vs cs → Paired (fun v y => ∃ c t u, v = Value.int c t ∧ y = Value.int (f c) u) vs ys → IntsAre ys (cs.map f)
  | _, _, _, .nil, .nil => .nil
  | _, _, _, .cons n t r, .cons h p => by
    obtain ⟨c, t', u, e, rfl⟩ := h
    cases e
    exact .cons _ _ (ints_of_pairs r p)
theorem comp_ints {prog : Program} {w : World} {A : Around} {E : Value → Shared → Prop} {s₁ : Shared} {h₀ : Heap} {L l : Addr} {m : Str → Option Value} {news : List (Addr × Obj)} {name : Str} {fscope : Scope} {a : Addr} {cd : Value} {elt : Expr} {x z : Str} {scope : Scope} {Q : Flow → Shared → Prop} {vs : List Value} {cs : List Int}
    (hh : A.handled = none) (hl : s₁.heap.IsList l vs.toArray) (hi : IntsAre vs cs) (F : Fr h₀ L s₁.heap m) (N : News h₀ L s₁.heap news) (f : Int → Int) (hlen : cs.length ≤ 4000)
    (g2 : ∀ C c t s₂ m₂ E', c ∈ cs → Fr { objs := #[] } C s₂.heap m₂ → m₂ x = some (.int c t) → wpAny (model prog w) A (eval elt (compEnv scope C (envOf name fscope L a cd))) (fun y s₃ => Hold ((∃ u, y = .int (f c) u) ∧ PySem.Keeps s₂ s₃)) E' s₂)
    (g3 : ∀ D ys nD h' tk, Fr h₀ L h' (fun q => if q = z then some (.ref D) else m q) → News h₀ L h' ((D, listOf ys.toArray nD) :: news) → (∀ p ∈ news, p.1 ≠ D) → IntsAre ys (cs.map f) → Q .next { s₁ with heap := h', toks := tk }) :
    wpAny (model prog w) A (pyIter (.ref l)) (CompPostA prog w A (envOf name fscope L a cd) scope x z [] elt Q) E s₁ := by
  have hlt : l < s₁.heap.objs.size := by obtain ⟨_, e, _⟩ := hl; exact Heap.lt_size e
  have hvl := hi.length
  refine wpAny_pyIter_list hl ?_
  refine ⟨fun _ => true, fun v y => ∃ c t u, v = Value.int c t ∧ y = Value.int (f c) u, s₁.heap.objs.size, [s₁.heap.objs.size, l], [s₁.heap.objs.size], vs.toArray.size, _, _, m, rfl, Walks.list hh _ l (Nat.ne_of_lt hlt) vs.toArray, (by rw [List.size_toArray, hvl, sizeLine_eq]; omega),
    ⟨⟨_, Heap.get?_push_size _ rfl, rfl, rfl⟩, hl.at fun o e => Heap.get?_push_of_some _ e⟩, ?_, ?_, (F.push _).ns, ⟨?_, ?_⟩, ?_⟩
  · intro b hb
    show b < (s₁.heap.push _).objs.size
    rw [Heap.size_push]
    rcases List.mem_cons.mp hb with rfl | hb
    · exact Nat.lt_succ_self _
    · rw [List.mem_singleton.mp hb]; exact Nat.lt_succ_of_lt hlt
  · intro hm
    exact absurd F.ns.lt ((List.mem_singleton.mp hm) ▸ Nat.lt_irrefl _)
  · intro C i v s₃ m₃ E' _ _ _ _ _
    exact wpAny_pure ⟨rfl, s₃.heap, s₃.toks, rfl, fun _ _ e => e⟩
  · intro C i v s₃ m₃ E' hP _ hn hm _ htk
    have hP' : vs[i]? = some v := by simpa using hP
    have hil : i < cs.length := by rw [← hvl]; exact (List.getElem?_eq_some_iff.mp hP').1
    obtain ⟨t, ht⟩ := hi.get i cs[i] (by simp [hil])
    rw [hP'] at ht
    cases ht
    refine wpAny_mono (g2 C cs[i] t s₃ m₃ E' (List.getElem_mem _) (fr_empty hn) hm) (fun y s₄ hy => ?_) fun _ _ e => e
    obtain ⟨⟨u, rfl⟩, k⟩ := hy.out
    exact ⟨⟨_, t, u, rfl, rfl⟩, k⟩
  · intro D h' tk ys vs' hnew hlD hplD hlen hP hF hn' hk
    have e' : vs' = vs := by simpa using walked_is hlen hP
    subst e'
    have hfil : vs'.filter (fun _ => true) = vs' := List.filter_eq_self.mpr (fun _ _ => rfl)
    obtain ⟨nD, hD⟩ := hplD
    have hnD : ∀ p ∈ news, p.1 ≠ D := fun p hp e => by rw [← e, Heap.get?_push_of_some _ (N p hp).1] at hnew; cases hnew
    have hLD : D ≠ L := fun e => by
      obtain ⟨o, _, _, ho, _⟩ := F.ns
      rw [e, Heap.get?_push_of_some _ ho] at hnew; cases hnew
    have h0D : h₀.get? D = none := by
      cases e : h₀.get? D with
      | none => rfl
      | some o' => rw [Heap.get?_push_of_some _ (F.keep _ _ e)] at hnew; cases hnew
    refine g3 D ys.toList nD h' tk ⟨hn', fun b o' e => hk b o' (Nat.ne_of_lt (Nat.lt_of_lt_of_le (Heap.lt_size e) F.above)) (not_iter_of_old (F.keep b o' e)) (Heap.get?_push_of_some _ (F.keep b o' e)), F.above⟩
      (news_cons ⟨by rw [Array.toArray_toList]; exact hD, hLD, h0D⟩ (fun p hp => ⟨hk _ _ (N p hp).2.1 (not_iter_of_old (N p hp).1) (Heap.get?_push_of_some _ (N p hp).1), (N p hp).2⟩)) hnD (ints_of_pairs hi (hfil ▸ hF))
section
variable {prog : Program} {w : World} {s : Shared} {R : Result → Shared → Prop} {p : Program} {loose : List Str} {mean : ExcName → Option Value} {mg mb : Str → Option Value} {h00 : Heap}
theorem text_spec {dp un : Nat} {fr : Option (List Env)} {gd : Option (List Code)} {l : Addr} {vs : List Value} {ns : List Nat}
    (W : W0 w p loose mean mg mb h00) (hk0 : Keeps h00 s.heap) (hI : TabI s.heap)
    (hdp : dp + 200 < recursionLimit) (hun : un + 100 < cLine)
    (hl : s.heap.IsList l vs.toArray) (hi : IntsAre vs (ns.map Int.ofNat)) (hn : ns.length ≤ 1000) (hns : ∀ n ∈ ns, 0 < n ∧ n < 2 ^ 36)
    (h : ∀ h' tk t, Keeps s.heap h' → R (.ok (.ret (.str ⟨(textN ns).toArray⟩ t))) { s with heap := h', toks := tk }) :
    codeAny (model prog w) (Ar dp un fr gd) (.call (.ref 122) ⟨[.ref l], []⟩) R s := by
  have X := W.X.keeps hk0
  have T := W.T.keeps hk0
  have hfill : PySem.Challenge.rw_ty0019_01 = PySem.Challenge.rw_ty0019_01 := rfl
  revert hfill X
  k_fill
  intro X hfill
  clear hfill
  refine' enter_plain [] X T ?k6 ?k7 ?k8 ?k9 ?kB ?_ ?c5 ?c2 ?c3 ?c4
  (case k6 => k_is)
  (case k7 => k_is)
  (case k8 => show dp < recursionLimit; omega)
  (case k9 => exact BindsTo.of_eq rfl)
  (case c5 => decide)
  (case kB => exact locs rfl)
  (case c2 => exact rfl)
  (case c3 => exact rfl)
  (case c4 => exact rfl)
  intro L' h₁ F hk₁ hL
  try dsimp only
  change Fr s.heap _ _ _ at F
  have N : News s.heap L' h₁ [] := News.nil
  try k_fold
  k_with_none
  k_with "pyIter ref" => (refine hold_out ?_)
  k_with "InvEndN" => (refine Hold.out ?_)
  k_with "m comp" => (refine hold_out ?_)
  k_with "m call" => (refine hold_out ?_)
  walk_at "m steps"
  refine hold_intro ?_
  rename Fr _ _ _ _ => F0
  rename News _ _ _ _ => N0
  rename_i ls hB hC hE
  refine' iter_invN (TextJ ls ns) ?k1 hl hi F0 N0 ?k2 ?turn ?done
  (case k1 => exact rfl)
  (case k2 => exact ⟨_, _, rfl, .nil, by simp, rfl⟩)
  case turn =>
    rintro i nI t m₁ nx₁ hh tk own hn' _ hoff ⟨A, n', rfl, hA, hsz, h1⟩ F₁ N₁
    obtain ⟨n, hni, rfl⟩ : ∃ n : Nat, ns[i]? = some n ∧ nI = (n : Int) := by
      rw [List.getElem?_map] at hn'
      cases q : ns[i]? with
      | none => rw [q] at hn'; cases hn'
      | some n => rw [q] at hn'; exact ⟨n, rfl, (Option.some.inj hn').symm⟩
    obtain ⟨u, rfl⟩ := frame1 h1
    clear h1
    dsimp only [List.map_cons, List.map_nil, List.cons_append, List.nil_append] at F₁ N₁ hoff ⊢
    try k_fold
    walk_at "m steps"
    refine hold_intro ?_
    rename Fr _ _ _ _ => F5
    rename News _ _ _ _ => N5
    obtain ⟨hn0, hn36⟩ := hns n (List.mem_of_getElem? hni)
    have hcnt0 : 0 < (Builtin.Int.intBits (n : Int) + 6 - 1) / 6 := by
      have := intBits_pos hn0
      omega
    have hcnt6 : (Builtin.Int.intBits (n : Int) + 6 - 1) / 6 ≤ 6 := by
      have := intBits_le hn36
      omega
    have hnlt : n < 2 ^ ((Builtin.Int.intBits (n : Int) + 6 - 1) / 6 * 6) := by
      refine Nat.lt_of_lt_of_le (intBits_lt hn0) (Nat.pow_le_pow_right (by decide) ?_)
      omega
    have hdl := digN_length 6 ((Builtin.Int.intBits (n : Int) + 6 - 1) / 6) n
    have hd64 := digN_lt 6 ((Builtin.Int.intBits (n : Int) + 6 - 1) / 6) n
    have hdg : digsOf n = (digN 6 ((Builtin.Int.intBits (n : Int) + 6 - 1) / 6) n).reverse := rfl
    refine wpAny_call ?_
    refine int2_hit (prog := prog) W (fun b o e => F5.keep _ _ (hk0 _ _ e)) (hI.keeps F5.keep) (by show dp + 1 + 100 < recursionLimit; omega) (n := 6) (by omega) (by omega) rfl (by omega) hnlt hn0 hcnt0 ?_
    intro l3 h3 tk3 ha3 NL3
    obtain ⟨A3, n3, F3, N3, hi3, hlt3⟩ := led_new F5 N5 NL3 ha3
    clear F5 N5 NL3
    obtain ⟨vs3, rfl⟩ : ∃ vs : List Value, A3 = vs.toArray := ⟨A3.toList, by simp⟩
    generalize digN 6 ((Builtin.Int.intBits (n : Int) + 6 - 1) / 6) n = ds at *
    try dsimp only
    refine comp_ints rfl (N3.isList (.head _)) hi3 F3 N3 (fun c => 64 + c) (by rw [List.length_map]; omega) ?_ ?_
    · intro C c t2 s₂ m₂ E' hc F6 hm
      obtain ⟨u6, rfl⟩ := frame1 hm
      have N6 : News { objs := #[] } C s₂.heap [] := News.nil
      clear F3 N3
      walk_at "m steps"
      all_goals (first | exact Hold.intro ⟨⟨_, rfl⟩, s₂.heap, _, rfl, fun _ _ e => e⟩ | exact Str.empty | exact Value.none | exact [] | exact (0 : Nat))
    intro D ys nD h4 tk4 F4 N4 hD4 hi4
    have hoff4 : OwnOff own [D, l3, ls] := fun p hp b hb => by
      rcases List.mem_cons.mp hb with rfl | hb
      · exact hD4 p (.tail _ (.tail _ hp))
      rcases List.mem_cons.mp hb with rfl | hb
      · exact Nat.ne_of_lt (hlt3 p (.tail _ hp))
      · exact hoff p hp b hb
    have hD3 : @Ne Nat l3 D := hD4 (l3, _) (.head _)
    have hDs : @Ne Nat ls D := hD4 (ls, _) (.tail _ (.head _))
    have h3s : @LT.lt Nat _ ls l3 := hlt3 (ls, _) (.head _)
    clear F3 N3 hD4 hoff
    try dsimp only
    k_with "m rev" => (refine hold_out ?_)
    walk_at "m steps"
    refine hold_intro ?_
    rename Fr _ _ _ _ => F5
    rename News _ _ _ _ => N5
    rename IntsAre _ _ => hi5
    refine m_reverse F5 N5 (Upd.head ?up) ?sz ?_
    case up =>
      intro p hp
      rcases List.mem_cons.mp hp with rfl | hp
      · exact hD3
      rcases List.mem_cons.mp hp with rfl | hp
      · exact hDs
      · exact hoff4 p hp D (.head _)
    case sz =>
      have := hi5.length
      simp only [List.length_set, List.length_map] at this
      simp only [List.size_toArray, List.length_set]
      omega
    intro h6 F6 N6
    replace N6 := news_rev N6
    obtain ⟨zs, N6', hi6⟩ := pack_list N6 hi5.reverse
    replace N6 := N6'
    clear N6'
    rw [text_codes (by omega), ← hdg] at hi6
    have hfl : (figsN (digsOf n)).length ≤ 6 := by rw [figsN_length, hdg, List.length_reverse]; omega
    have hfl0 : 0 < (figsN (digsOf n)).length := by rw [figsN_length, hdg, List.length_reverse]; omega
    have hf128 : ∀ c ∈ figsN (digsOf n), c < 128 := figsN_lt (by rw [hdg]; intro d hd; exact hd64 d (List.mem_reverse.mp hd))
    clear hi5 F5 N5
    try dsimp only
    walk_at "m steps"
    refine hold_intro ?_
    have hzl := hi6.length
    rw [List.length_map] at hzl
    have lD : D < h6.objs.size := Heap.lt_size (N6 _ (.head _)).1
    refine' wpAny_ListComp_free (cl := []) (fun _ => true) (fun v y => ∃ (c : Nat) (t u : Tok), v = .int (c : Int) t ∧ y = .str (one c) u) ?d1 ?d2 ?d3 ?d4 ?d5 ?dh ?ds
    (case d1 => rfl)
    (case d2 => decide)
    (case d3 => rfl)
    (case d4 => decide)
    (case d5 => rfl)
    (case ds => intro _; rfl)
    walk_at "m steps"
    refine hold_intro ?_
    refine wpAny_pyIter_list (N6.isList (.head _)) ?_
    refine ⟨h6.objs.size, [h6.objs.size, D], [h6.objs.size], zs.toArray.size, _, _, rfl, Walks.list rfl _ D (Nat.ne_of_lt lD) zs.toArray, (by rw [List.size_toArray, sizeLine_eq]; omega), ⟨⟨_, Heap.get?_push_size _ rfl, rfl, rfl⟩, (N6.isList (.head _)).at fun o e => Heap.get?_push_of_some _ e⟩, ?_, ⟨?_, ?_⟩, ?_⟩
    · intro b hb
      show b < (h6.push _).objs.size
      rw [Heap.size_push]
      rcases List.mem_cons.mp hb with rfl | hb
      · exact Nat.lt_succ_self _
      · rw [List.mem_singleton.mp hb]; exact Nat.lt_succ_of_lt lD
    · intro C j v s₃ m₃ E' _ _ _ _ _ _
      exact wpAny_pure ⟨rfl, s₃.heap, s₃.toks, rfl, fun _ _ e => e⟩
    · intro C j v s₃ m₃ E' hC hv _ hn hm hk htk
      have hv' : zs[j]? = some v := by simpa using hv
      have hjl : j < (figsN (digsOf n)).length := by rw [← hzl]; exact (List.getElem?_eq_some_iff.mp hv').1
      obtain ⟨t7, ht7⟩ := hi6.get j ((figsN (digsOf n))[j] : Int) (by simp [hjl])
      rw [hv'] at ht7
      cases ht7
      have hc128 := hf128 _ (List.getElem_mem hjl)
      generalize (figsN (digsOf n))[j] = c at *
      have F7 : Fr h6 C s₃.heap m₃ := frInComp hn (fun b o e => hk b o (by rw [List.mem_singleton]; exact Nat.ne_of_lt (Heap.lt_size e)) (Heap.get?_push_of_some _ e)) (Nat.le_trans (by simp [Heap.size_push]) hC)
      have X6 := X.keeps F6.keep
      have T6 := T.keeps F6.keep
      obtain ⟨u7, rfl⟩ := frame1 hm
      have N7 : News h6 C s₃.heap [] := News.nil
      clear F6 N6
      show wpAny _ _ _ (fun y s₄ => Hold (_ ∧ _)) _ _
      walk_at "m steps"
      all_goals (first | exact Hold.intro ⟨⟨c, _, _, rfl, rfl⟩, s₃.heap, _, rfl, fun _ _ e => e⟩ | exact Str.empty | exact Value.none | exact [] | exact (0 : Nat) | skip)
    · intro D2 h7 tk7 ys7 vs7 hD hlD hpD hvl hP hPair hk2
      have k67 : Keeps h6 h7 := fun b o e => hk2 b o (not_iter_of_old e) (Heap.get?_push_of_some _ e)
      have F7 := fr_keeps F6 k67
      have N7 := news_keeps N6 k67
      have e' : vs7 = zs := by simpa using walked_is hvl hP
      subst e'
      have hfil : vs7.filter (fun _ => true) = vs7 := List.filter_eq_self.mpr (fun _ _ => rfl)
      have hst7 : StrsAre ys7.toList ((figsN (digsOf n)).map one) := strs_of_pairs hi6 (hfil ▸ hPair)
      obtain ⟨n7, hD7⟩ := hpD
      have hnD : ∀ p ∈ (D, listOf vs7.toArray nD) :: (l3, listOf vs3.toArray n3) :: (ls, listOf A n') :: own, p.1 ≠ D2 := fun p hp e => by
        have := Heap.get?_push_of_some { cls := .type "list_iterator", data := .fields #[.ref D, .int 0 0] } (N6 p hp).1
        rw [e] at this
        rw [show (h6.push _).get? D2 = none from hD] at this
        cases this
      have hLD : D2 ≠ L' := fun e => by
        obtain ⟨o, _, _, ho, _⟩ := F6.ns
        have := Heap.get?_push_of_some { cls := .type "list_iterator", data := .fields #[.ref D, .int 0 0] } ho
        rw [← e, show (h6.push _).get? D2 = none from hD] at this
        cases this
      have h0D : s.heap.get? D2 = none := by
        cases e : s.heap.get? D2 with
        | none => rfl
        | some o' =>
          have := Heap.get?_push_of_some { cls := .type "list_iterator", data := .fields #[.ref D, .int 0 0] } (F6.keep _ _ e)
          rw [show (h6.push _).get? D2 = none from hD] at this
          cases this
      have N8 := news_cons ⟨hD7, hLD, h0D⟩ N7
      have hD8 : @Ne Nat D D2 := hnD _ (.head _)
      have hD9 : @Ne Nat l3 D2 := hnD _ (.tail _ (.head _))
      have hDa : @Ne Nat ls D2 := hnD _ (.tail _ (.tail _ (.head _)))
      have hys7 : ys7.size ≤ 6 := by
        have := hst7.length
        rw [List.length_map, Array.length_toList] at this
        omega
      have hys0 : 0 < ys7.size := by
        have := hst7.length
        rw [List.length_map, Array.length_toList] at this
        omega
      have hil : i < ns.length := (List.getElem?_eq_some_iff.mp hni).1
      clear F6 N6 N7
      try dsimp only
      walk_at "m steps"
      refine Hold.intro ?_
      refine' endN_one ?kF ?kN ?km ?ko ?kj
      (case kF => assumption)
      (case kN => assumption)
      (case km => k_mem)
      (case ko => intro p hp; k_ownIn)
      (case kj =>
        refine ⟨_, _, rfl, ?e1, ?e2, rfl⟩
        (case e2 => simp only [Array.size_append]; omega)
        (case e1 =>
          rw [textN_succ hni, List.map_append, Array.toList_append]
          exact hA.append' hst7))
  case done =>
    rintro m₁ nx₁ hh tk ⟨A, n', rfl, hA, hsz, h1⟩ F₁ N₁
    rw [List.length_map, List.take_length] at hA
    rw [List.length_map] at hsz
    obtain ⟨u, rfl⟩ := frame1 h1
    clear h1
    have hAl := hA.length
    have hAsz : A.size ≤ 6000 := by omega
    dsimp only
    try k_fold
    walk_at "m steps"
    have hw : ((textN ns).map one |>.map (·.length)).sum = (textN ns).length := by
      rw [List.map_map]
      have : ∀ l : List Nat, (l.map ((fun x : Str => x.length) ∘ one)).sum = l.length := by
        intro l
        induction l with
        | nil => rfl
        | cons a r ih => rw [List.map_cons, List.sum_cons, ih, List.length_cons]; show 1 + _ = _; omega
      exact this _
    refine join_listW (N₁.isList (.head _)) hA (by decide) (by rw [hw]; rw [List.length_map, Array.length_toList] at hAl; rw [List.length_map]; omega) ?_
    intro t' k
    rw [join_ones]
    exact h _ _ _ F₁.keep
end

end
theorem marks_Page : True := by
  w_on
  w_top off
  k_with_none
  trivial
section
/-- the number that one item of the script gives -/
def pageNum (x : Int) : Nat :=
  let y := ((x.fdiv 6).fmod 4096).toNat
  match (x.fmod 6).toNat with
  | 0 => 46
  | 1 => 64 * y + 10
  | 2 => 64 * y + 13
  | 3 => y + 1
  | 4 => 64 * y + 46
  | _ => 10
def pageL (xs : List Int) : List Nat := (xs.take 4).map pageNum ++ [46, 77, 10, 46, 74, 46]
theorem pageNum_int (x : Int) : [46, 64 * (x.fdiv 6).fmod 4096 + 10, 64 * (x.fdiv 6).fmod 4096 + 13, (x.fdiv 6).fmod 4096 + 1, 64 * (x.fdiv 6).fmod 4096 + 46, 10].getD (x.fmod 6).toNat 0 = ((pageNum x : Nat) : Int) := by
  unfold pageNum
  have hy : 0 ≤ (x.fdiv 6).fmod 4096 := Int.fmod_nonneg_of_pos _ (by decide)
  have hk0 : 0 ≤ x.fmod 6 := Int.fmod_nonneg_of_pos _ (by decide)
  have hk6 : x.fmod 6 < 6 := Int.fmod_lt_of_pos _ (by decide)
  obtain ⟨y, ey⟩ : ∃ y : Nat, (x.fdiv 6).fmod 4096 = (y : Int) := ⟨((x.fdiv 6).fmod 4096).toNat, by omega⟩
  obtain ⟨k, ek⟩ : ∃ k : Nat, x.fmod 6 = (k : Int) := ⟨(x.fmod 6).toNat, by omega⟩
  rw [ey, ek]
  rw [ek] at hk6
  simp only [Int.toNat_natCast]
  match k, hk6 with
  | 0, _ => rfl
  | 1, _ => simp
  | 2, _ => simp
  | 3, _ => simp
  | 4, _ => simp
  | 5, _ => rfl
  | k + 6, h => omega
theorem pageNum_pos (x : Int) : 0 < pageNum x := by
  unfold pageNum
  generalize ((x.fdiv 6).fmod 4096).toNat = y
  generalize (x.fmod 6).toNat = k
  match k with
  | 0 => show 0 < 46; omega
  | 1 => show 0 < 64 * y + 10; omega
  | 2 => show 0 < 64 * y + 13; omega
  | 3 => show 0 < y + 1; omega
  | 4 => show 0 < 64 * y + 46; omega
  | k + 5 => show 0 < 10; omega
theorem pageNum_lt (x : Int) : pageNum x < 262141 := by
  have h : ((x.fdiv 6).fmod 4096) < 4096 := Int.fmod_lt_of_pos _ (by decide)
  unfold pageNum
  generalize hY : ((x.fdiv 6).fmod 4096).toNat = y
  have hy : y < 4096 := by omega
  generalize (x.fmod 6).toNat = k
  match k with
  | 0 => show 46 < 262141; omega
  | 1 => show 64 * y + 10 < 262141; omega
  | 2 => show 64 * y + 13 < 262141; omega
  | 3 => show y + 1 < 262141; omega
  | 4 => show 64 * y + 46 < 262141; omega
  | k + 5 => show 10 < 262141; omega
def PageJ (ln lS : Addr) (ws : List Value) (xs : List Int) (i : Nat) (m : Str → Option Value) (nx : List (Addr × Obj)) : Prop :=
  ∃ (A : Array Value) (n' : Nat), nx = [(lS, listOf ws.toArray 0), (ln, listOf A n')] ∧ IntsAre A.toList (((xs.take i).map pageNum).map Int.ofNat) ∧ A.size ≤ i ∧
    m "numbers" = some (.ref ln)
section
variable {prog : Program} {w : World} {s : Shared} {R : Result → Shared → Prop} {p : Program} {loose : List Str} {mean : ExcName → Option Value} {mg mb : Str → Option Value} {h00 : Heap}
theorem page_spec {dp un : Nat} {fr : Option (List Env)} {gd : Option (List Code)} {l : Addr} {vs : List Value} {xs : List Int}
    (X : (hd.heap_39 w.params).In s.heap) (T : Top p loose mean mg mb s.heap)
    (hdp : dp + 5 < recursionLimit) (hun : un + 50 < cLine)
    (hl : s.heap.IsList l vs.toArray) (hi : IntsAre vs xs) (hn : xs.length ≤ 1000)
    (h : ∀ l' h' tk, NewList s.heap h' l' ((pageL xs).map Int.ofNat) → R (.ok (.ret (.ref l'))) { s with heap := h', toks := tk }) :
    codeAny (model prog w) (Ar dp un fr gd) (.call (.ref 117) ⟨[.ref l], []⟩) R s := by
  have hfill : PySem.Challenge.rw_ty0019_01 = PySem.Challenge.rw_ty0019_01 := rfl
  revert hfill X
  k_fill
  intro X hfill
  clear hfill
  refine' enter_plain [] X T ?k6 ?k7 ?k8 ?k9 ?kB ?_ ?c5 ?c2 ?c3 ?c4
  (case k6 => k_is)
  (case k7 => k_is)
  (case k8 => show dp < recursionLimit; omega)
  (case k9 => exact BindsTo.of_eq rfl)
  (case c5 => decide)
  (case kB => exact locs rfl)
  (case c2 => exact rfl)
  (case c3 => exact rfl)
  (case c4 => exact rfl)
  intro L' h₁ F hk₁ hL
  try dsimp only
  change Fr s.heap _ _ _ at F
  have N : News s.heap L' h₁ [] := News.nil
  try k_fold
  k_with_none
  k_with "pyIter ref" => (refine hold_out ?_)
  k_with "InvEndN" => (refine Hold.out ?_)
  walk_at "m steps"
  refine hold_intro ?_
  rename Fr _ _ _ _ => F0
  rename News _ _ _ _ => N0
  rename IntsAre _ (List.take 4 xs) => hI0
  rename @LT.lt Nat _ _ _ => l0
  rename_i ln _ _ _ lS ws _ _ _
  refine' iter_invNL (PageJ ln lS ws (xs.take 4)) ?k1 (.head _) hI0 F0 N0 ?k2 ?turn ?done
  (case k1 => exact rfl)
  (case k2 => exact ⟨_, _, rfl, .nil, Nat.le_refl _, rfl⟩)
  case turn =>
    rintro i x t m₁ nx₁ hh tk own hx _ hoff _ ⟨A, n', rfl, hA, hsz, h1⟩ F₁ N₁
    have hi4 : i < 4 := by
      have := (List.getElem?_eq_some_iff.mp hx).1
      rw [List.length_take] at this
      omega
    obtain ⟨u, rfl⟩ := frame1 h1
    clear h1 F0 N0
    dsimp only [List.map_cons, List.map_nil, List.cons_append, List.nil_append] at F₁ N₁ hoff ⊢
    try k_fold
    walk_at "m steps"
    refine Hold.intro ?_
    rename News _ _ _ _ => N9
    rename Fr _ _ _ _ => F9
    rename_i l9 hB9 ho9 tx9 hC9
    refine InvEndN.intro (nx := [(lS, listOf ws.toArray 0), (ln, listOf (A.push (.int ([46, 64 * (x.fdiv 6).fmod 4096 + 10, 64 * (x.fdiv 6).fmod 4096 + 13, (x.fdiv 6).fmod 4096 + 1, 64 * (x.fdiv 6).fmod 4096 + 46, 10].getD (x.fmod 6).toNat 0) tx9)) (n' + 1))]) F9 N9 ?kj rfl ?km ?ko
    (case kj =>
      refine ⟨.head _, _, _, rfl, ?_, by rw [Array.size_push]; omega, rfl⟩
      rw [List.take_add_one, hx, Option.toList_some, List.map_append, List.map_append, pageNum_int]
      exact ints_push hA)
    (case km =>
      intro p hp
      simp only [List.mem_cons, List.not_mem_nil, or_false] at hp
      rcases hp with rfl | rfl
      · k_mem
      · k_mem)
    (case ko => intro p hp; k_ownIn)
  case done =>
    rintro m₁ nx₁ hh tk _ ⟨A, n', rfl, hA, hsz, h1⟩ F₁ N₁
    rw [List.take_length] at hA
    obtain ⟨u, rfl⟩ := frame1 h1
    clear h1 F0 N0
    have hsz4 : A.size ≤ 4 := by
      rw [List.length_take] at hsz
      omega
    dsimp only
    try k_fold
    walk_at "m steps"
    refine h _ _ _ (NewList.of (by assumption) (by assumption) (.head _) ?_)
    rename IntsAre _ _ => hI9
    unfold pageL
    rw [List.map_append]
    exact hI9
end

end
section
theorem cnt_spec {b x : Nat} (hb : 0 < b) (hx : 0 < x) : 2 ^ (b * ((Builtin.Int.intBits (x : Int) + b - 1) / b - 1)) ≤ x ∧ x < 2 ^ (b * ((Builtin.Int.intBits (x : Int) + b - 1) / b)) ∧ 0 < (Builtin.Int.intBits (x : Int) + b - 1) / b := by
  have h1 := intBits_pos hx
  have h2 := intBits_lt hx
  have h3 := intBits_ge hx
  generalize Builtin.Int.intBits (x : Int) = e at *
  have hp : 0 < (e + b - 1) / b := Nat.div_pos (by omega) hb
  have hd := Nat.div_add_mod (e + b - 1) b
  have hm := Nat.mod_lt (e + b - 1) hb
  generalize (e + b - 1) / b = k at *
  obtain ⟨j, rfl⟩ : ∃ j, k = j + 1 := ⟨k - 1, by omega⟩
  rw [Nat.mul_succ] at hd
  refine ⟨Nat.le_trans (Nat.pow_le_pow_right (by decide) ?_) h3, Nat.lt_of_lt_of_le h2 (Nat.pow_le_pow_right (by decide) ?_), hp⟩
  · rw [Nat.add_sub_cancel]; omega
  · rw [Nat.mul_succ]; omega
theorem cnt_eq {b x k : Nat} (hb : 0 < b) (h1 : 2 ^ (b * k) ≤ x) (h2 : x < 2 ^ (b * (k + 1))) : (Builtin.Int.intBits (x : Int) + b - 1) / b = k + 1 := by
  have hx : 0 < x := Nat.lt_of_lt_of_le (Nat.two_pow_pos _) h1
  have h3 := intBits_le h2
  have h4 : b * k < Builtin.Int.intBits (x : Int) := by
    have := intBits_lt hx
    have := Nat.lt_of_le_of_lt h1 this
    exact (Nat.pow_lt_pow_iff_right (by decide)).mp this
  rw [Nat.mul_succ] at h3
  generalize Builtin.Int.intBits (x : Int) = e at *
  apply Nat.div_eq_of_lt_le
  · rw [Nat.mul_comm, Nat.mul_succ]; omega
  · rw [Nat.mul_comm, Nat.mul_succ, Nat.mul_succ]; omega
theorem digsOf_zero : digsOf 0 = [] := by decide +kernel
theorem cnt_six {n : Nat} (h : 0 < n) : (Builtin.Int.intBits (n : Int) + 6 - 1) / 6 = (Builtin.Int.intBits ((n / 64 : Nat) : Int) + 6 - 1) / 6 + 1 := by
  by_cases hn : n < 64
  · rw [Nat.div_eq_of_lt hn]
    exact cnt_eq (k := 0) (by decide) (by simp; omega) (by simpa using hn)
  · have hm : 0 < n / 64 := Nat.div_pos (by omega) (by decide)
    obtain ⟨h1, h2, h3⟩ := cnt_spec (b := 6) (by decide) hm
    generalize (Builtin.Int.intBits ((n / 64 : Nat) : Int) + 6 - 1) / 6 = k at *
    refine cnt_eq (by decide) ?_ ?_
    · have e : 2 ^ (6 * k) = 64 * 2 ^ (6 * (k - 1)) := by
        rw [show 6 * k = 6 + 6 * (k - 1) by omega, Nat.pow_add]
      rw [e]
      omega
    · have e : 2 ^ (6 * (k + 1)) = 64 * 2 ^ (6 * k) := by
        rw [show 6 * (k + 1) = 6 + 6 * k by omega, Nat.pow_add]
      rw [e]
      omega
theorem digsOf_succ {n : Nat} (h : 0 < n) : digsOf n = digsOf (n / 64) ++ [n % 64] := by
  unfold digsOf
  rw [cnt_six h, digN_succ, List.reverse_cons]
def hiN (n : Nat) : List Nat := (digsOf (n / 64)).map fun x => x + 64
theorem word_eq {n : Nat} (h : 0 < n) : figsN (digsOf n) = hiN n ++ [n % 64] := by
  rw [digsOf_succ h, figsN_snoc]; rfl
theorem textN_nil : textN [] = [] := rfl
theorem textN_cons {n : Nat} {r : List Nat} (h : 0 < n) : textN (n :: r) = hiN n ++ n % 64 :: textN r := by
  show figsN (digsOf n) ++ textN r = _
  rw [word_eq h, List.append_assoc]
  rfl
theorem textN_append (a b : List Nat) : textN (a ++ b) = textN a ++ textN b := by
  unfold textN
  rw [List.map_append, List.flatten_append]
theorem hiN_ge {n c : Nat} (h : c ∈ hiN n) : 64 ≤ c := by
  obtain ⟨x, _, rfl⟩ := List.mem_map.mp h
  omega
theorem hiN_nil {n : Nat} (h : n < 64) : hiN n = [] := by
  unfold hiN
  rw [Nat.div_eq_of_lt h, digsOf_zero]
  rfl
theorem hiN_ne {n : Nat} (h : 64 ≤ n) : ∃ c t, hiN n = c :: t := by
  cases e : hiN n with
  | cons c t => exact ⟨c, t, rfl⟩
  | nil =>
    unfold hiN at e
    have hm : 0 < n / 64 := Nat.div_pos (by omega) (by decide)
    rw [digsOf_succ hm] at e
    simp at e
theorem hiN_same {n m : Nat} (h : n / 64 = m / 64) : hiN n = hiN m := by unfold hiN; rw [h]
/-- a number whose text is one sign -/
theorem text_small {c : Nat} {r : List Nat} (h0 : 0 < c) (h : c < 64) : textN (c :: r) = c :: textN r := by
  rw [textN_cons h0, hiN_nil h, Nat.mod_eq_of_lt h]; rfl
theorem crlf_other {c : Nat} {X : List Nat} (h1 : c ≠ 10) (h2 : c ≠ 13) : crlfL (c :: X) = c :: crlfL X := by
  cases X with
  | nil => rw [crlfL_one, crlfL_nil]; simp [h1, h2]
  | cons d r => rw [crlfL_two]; simp [h1, h2]
theorem crlf_10 {X : List Nat} : crlfL (10 :: X) = 13 :: 10 :: crlfL X := by
  cases X with
  | nil => rw [crlfL_one, crlfL_nil]; simp
  | cons d r => rw [crlfL_two]; simp
theorem crlf_13 {c : Nat} {X : List Nat} (h : c ≠ 10) : crlfL (13 :: c :: X) = 13 :: 10 :: crlfL (c :: X) := by
  rw [crlfL_two]; simp [h]
theorem crlf_1310 {X : List Nat} : crlfL (13 :: 10 :: X) = 13 :: 10 :: crlfL X := by
  rw [crlfL_two]; simp
theorem crlf_hi {X : List Nat} : ∀ {l : List Nat}, (∀ c ∈ l, 64 ≤ c) → crlfL (l ++ X) = l ++ crlfL X
  | [], _ => rfl
  | c :: r, h => by
    have hc := h c (.head _)
    rw [List.cons_append, crlf_other (by omega) (by omega), crlf_hi (fun x hx => h x (.tail _ hx))]
    rfl
/-- the feeds of a sent page -/
def crN : Bool → List Nat → List Nat
  | w, [] => if w then [10] else []
  | w, n :: r =>
    (if w then [10] else []) ++ (if w = true ∧ n = 10 then crN false r else if n % 64 = 10 then (n + 3) :: 10 :: crN false r else if n % 64 = 13 then n :: crN true r else n :: crN false r)
theorem crN_false (n : Nat) (r : List Nat) : crN false (n :: r) = if n % 64 = 10 then (n + 3) :: 10 :: crN false r else if n % 64 = 13 then n :: crN true r else n :: crN false r := by
  rw [crN]; simp
theorem crN_true {n : Nat} {r : List Nat} (h : n ≠ 10) : crN true (n :: r) = 10 :: crN false (n :: r) := by
  rw [crN_false, crN]; simp [h]
theorem crN_ten (r : List Nat) : crN true (10 :: r) = 10 :: crN false r := by
  rw [crN]; simp
theorem crlf_text : ∀ ns : List Nat, (∀ n ∈ ns, 0 < n) → crlfL (textN ns) = textN (crN false ns) ∧ crlfL (13 :: textN ns) = 13 :: textN (crN true ns)
  | [], _ => by
    refine ⟨?_, ?_⟩
    · rw [textN_nil, crlfL_nil]; rfl
    · rw [textN_nil, crlfL_one]
      show [13, 10] = 13 :: textN [10]
      rw [text_small (by decide) (by decide)]
      rfl
  | n :: r, hp => by
    have hn := hp n (.head _)
    obtain ⟨i1, i2⟩ := crlf_text r (fun x hx => hp x (.tail _ hx))
    have key : crlfL (textN (n :: r)) = textN (crN false (n :: r)) := by
      rw [textN_cons hn, crlf_hi (fun c hc => hiN_ge hc)]
      rw [crN_false]
      by_cases h10 : n % 64 = 10
      · rw [if_pos h10, h10, crlf_10, i1, textN_cons (by omega : 0 < n + 3), text_small (by decide) (by decide), hiN_same (by omega : (n + 3) / 64 = n / 64), show (n + 3) % 64 = 13 by omega]
      · rw [if_neg h10]
        by_cases h13 : n % 64 = 13
        · rw [if_pos h13, h13, i2, textN_cons hn, h13]
        · rw [if_neg h13, crlf_other h10 h13, i1, textN_cons hn]
    refine ⟨key, ?_⟩
    by_cases h : n = 10
    · subst h
      rw [crN_ten, text_small (by decide) (by decide), text_small (by decide) (by decide), crlf_1310, i1]
    · rw [crN_true h, text_small (c := 10) (by decide) (by decide), ← key]
      by_cases h64 : n < 64
      · rw [text_small hn h64, crlf_13 h]
      · obtain ⟨c, t, hc⟩ := hiN_ne (by omega : 64 ≤ n)
        have hc64 : 64 ≤ c := hiN_ge (by rw [hc]; exact .head _)
        rw [textN_cons hn, hc, List.cons_append, crlf_13 (by omega)]
/-- the dots of a sent page -/
def doN : Bool → List Nat → List Nat
  | _, [] => []
  | f, n :: r => (if f = true ∧ n = 46 then [46, 46] else [n]) ++ doN (n % 64 == 10) r
theorem dots_hi {X : List Nat} : ∀ {l : List Nat}, (∀ c ∈ l, 64 ≤ c) → dotsL false (l ++ X) = l ++ dotsL false X
  | [], _ => rfl
  | c :: r, h => by
    have hc := h c (.head _)
    have e : (c == 10) = false := by simp; omega
    rw [List.cons_append, dotsL, e, dots_hi (fun x hx => h x (.tail _ hx))]
    simp
theorem dots_text : ∀ (ns : List Nat) (f : Bool), (∀ n ∈ ns, 0 < n) → dotsL f (textN ns) = textN (doN f ns)
  | [], f, _ => rfl
  | n :: r, f, hp => by
    have hn := hp n (.head _)
    have ih := dots_text r (n % 64 == 10) (fun x hx => hp x (.tail _ hx))
    by_cases h64 : n < 64
    · rw [text_small hn h64, dotsL, doN, textN_append]
      rw [Nat.mod_eq_of_lt h64] at ih ⊢
      rw [ih]
      congr 1
      by_cases hf : f = true ∧ n = 46
      · rw [if_pos hf, if_pos (by simp [hf])]
        obtain ⟨_, rfl⟩ := hf
        rw [text_small (by decide) (by decide), text_small (by decide) (by decide)]
        rfl
      · rw [if_neg hf, if_neg (by simpa using hf), text_small hn h64]
        rfl
    · obtain ⟨c, t, hc⟩ := hiN_ne (by omega : 64 ≤ n)
      have hcg : ∀ x ∈ c :: t, 64 ≤ x := fun x hx => hiN_ge (n := n) (by rw [hc]; exact hx)
      have hc64 := hcg c (.head _)
      have e : (c == 10) = false := by simp; omega
      have e46 : (f && c == 46) = false := by simp; omega
      have h46 : ¬ (f = true ∧ n = 46) := by omega
      rw [doN, if_neg h46, List.singleton_append, textN_cons hn, textN_cons hn, hc, List.cons_append, dotsL, e, e46, dots_hi (fun x hx => hcg x (.tail _ hx)), ← ih, dotsL]
      simp
/-- what one number of a page gives when it is sent -/
def core (f : Bool) (n : Nat) : List Nat := (if f = true ∧ n = 46 then [46] else []) ++ (if n % 64 = 10 then [n + 3, 10] else [n])
def outN (f w : Bool) (n : Nat) : List Nat := if w then (if n = 10 then [10] else 10 :: core true n) else core f n
def sentR : Bool → Bool → List Nat → List Nat
  | _, w, [] => if w then [10] else []
  | f, w, n :: r => outN f w n ++ sentR (n % 64 == 10) (n % 64 == 13) r
theorem doN_core (f : Bool) (n : Nat) (X : List Nat) : doN f (if n % 64 = 10 then (n + 3) :: 10 :: X else n :: X) = core f n ++ doN (n % 64 == 10) X := by
  unfold core
  by_cases h : n % 64 = 10
  · rw [if_pos h, if_pos h, if_neg (by omega : ¬ (f = true ∧ n = 46))]
    simp only [doN]
    rw [if_neg (by omega : ¬ (f = true ∧ n + 3 = 46)), show ((n + 3) % 64 == 10) = false by simp; omega, if_neg (by simp)]
    simp [h]
  · rw [if_neg h, if_neg h, doN]
    by_cases hf : f = true ∧ n = 46
    · rw [if_pos hf, if_pos hf]
      obtain ⟨_, rfl⟩ := hf
      rfl
    · rw [if_neg hf, if_neg hf]
      rfl
theorem sentR_eq : ∀ (ns : List Nat) (f : Bool), doN f (crN false ns) = sentR f false ns ∧ doN false (crN true ns) = sentR f true ns
  | [], f => ⟨rfl, rfl⟩
  | n :: r, f => by
    have key : ∀ f, doN f (crN false (n :: r)) = sentR f false (n :: r) := by
      intro f
      have e : crN false (n :: r) = if n % 64 = 10 then (n + 3) :: 10 :: crN (n % 64 == 13) r else n :: crN (n % 64 == 13) r := by
        rw [crN_false]
        by_cases h10 : n % 64 = 10
        · rw [if_pos h10, if_pos h10, h10]; rfl
        · rw [if_neg h10, if_neg h10]
          by_cases h13 : n % 64 = 13
          · rw [if_pos h13, h13]; rfl
          · rw [if_neg h13, show (n % 64 == 13) = false by simpa using h13]
      rw [e, doN_core, sentR, outN]
      simp only [Bool.false_eq_true, if_false]
      congr 1
      by_cases h13 : n % 64 = 13
      · rw [h13]
        exact (sentR_eq r false).2
      · rw [show (n % 64 == 13) = false by simpa using h13]
        exact (sentR_eq r _).1
    refine ⟨key f, ?_⟩
    by_cases h : n = 10
    · subst h
      rw [crN_ten]
      rw [doN, sentR, outN]
      simp only [if_true]
      rw [if_neg (by simp)]
      congr 1
      exact (sentR_eq r true).1
    · rw [crN_true h, doN, if_neg (by simp)]
      show [10] ++ doN true _ = _
      rw [key true, sentR, sentR, outN, outN]
      simp [h]
theorem sentR_pos {ns : List Nat} : ∀ {f w : Bool}, (∀ n ∈ ns, 0 < n ∧ n < 2 ^ 18) → ∀ n ∈ sentR f w ns, 0 < n ∧ n < 2 ^ 18 := by
  induction ns with
  | nil =>
    intro f w _ n hn
    unfold sentR at hn
    split at hn
    · rw [List.mem_singleton.mp hn]; decide
    · cases hn
  | cons a r ih =>
    intro f w h n hn
    have ha := h a (.head _)
    rw [sentR] at hn
    rcases List.mem_append.mp hn with hn | hn
    · have hcore : ∀ f, n ∈ core f a → 0 < n ∧ n < 2 ^ 18 := by
        intro f hn
        unfold core at hn
        rcases List.mem_append.mp hn with hn | hn
        · split at hn
          · rw [List.mem_singleton.mp hn]; decide
          · cases hn
        · split at hn
          · rcases List.mem_cons.mp hn with rfl | hn
            · omega
            · rw [List.mem_singleton.mp hn]; decide
          · rw [List.mem_singleton.mp hn]; exact ha
      unfold outN at hn
      split at hn
      · split at hn
        · rw [List.mem_singleton.mp hn]; decide
        · rcases List.mem_cons.mp hn with rfl | hn
          · decide
          · exact hcore _ hn
      · exact hcore _ hn
    · exact ih (fun x hx => h x (.tail _ hx)) n hn
theorem crN_pos {ns : List Nat} : ∀ {w : Bool}, (∀ n ∈ ns, 0 < n) → ∀ n ∈ crN w ns, 0 < n := by
  induction ns with
  | nil =>
    intro w _ n hn
    unfold crN at hn
    split at hn
    · rw [List.mem_singleton.mp hn]; decide
    · cases hn
  | cons a r ih =>
    intro w h n hn
    have ha := h a (.head _)
    have ih' : ∀ {w : Bool}, n ∈ crN w r → 0 < n := fun hn => ih (fun x hx => h x (.tail _ hx)) n hn
    unfold crN at hn
    rcases List.mem_append.mp hn with hn | hn
    · split at hn
      · rw [List.mem_singleton.mp hn]; decide
      · cases hn
    · split at hn
      · exact ih' hn
      · split at hn
        · rcases List.mem_cons.mp hn with rfl | hn
          · omega
          rcases List.mem_cons.mp hn with rfl | hn
          · decide
          · exact ih' hn
        · split at hn
          · rcases List.mem_cons.mp hn with rfl | hn
            · exact ha
            · exact ih' hn
          · rcases List.mem_cons.mp hn with rfl | hn
            · exact ha
            · exact ih' hn
/-- sending a page's text -/
theorem quote_text {ns : List Nat} (h : ∀ n ∈ ns, 0 < n) : dotsL true (crlfL (textN ns)) = textN (sentR true false ns) := by
  rw [(crlf_text ns h).1, dots_text _ _ (crN_pos h), (sentR_eq ns true).1]

end
section
def seN (k : Nat) : Bool → List Nat → List Nat
  | _, [] => []
  | f, n :: r => (if f = true ∧ n ≠ 10 then List.replicate k 32 else []) ++ n :: seN k (n % 64 == 10) r
theorem ind_hi {k : Nat} {X : List Nat} : ∀ {l : List Nat}, (∀ c ∈ l, 64 ≤ c) → indL k false (l ++ X) = l ++ indL k false X
  | [], _ => rfl
  | c :: r, h => by
    have hc := h c (.head _)
    have e : (c == 10) = false := by simp; omega
    rw [List.cons_append, indL, e, ind_hi (fun x hx => h x (.tail _ hx))]
    simp
theorem text_repl (k : Nat) : textN (List.replicate k 32) = List.replicate k 32 := by
  induction k with
  | zero => rfl
  | succ k ih => rw [List.replicate_succ, text_small (by decide) (by decide), ih]
theorem ind_text (k : Nat) : ∀ (ns : List Nat) (f : Bool), (∀ n ∈ ns, 0 < n) → indL k f (textN ns) = textN (seN k f ns)
  | [], f, _ => rfl
  | n :: r, f, hp => by
    have hn := hp n (.head _)
    have ih := ind_text k r (n % 64 == 10) (fun x hx => hp x (.tail _ hx))
    rw [seN, textN_append]
    by_cases h64 : n < 64
    · rw [text_small hn h64, text_small hn h64, indL]
      rw [Nat.mod_eq_of_lt h64] at ih ⊢
      rw [ih]
      congr 1
      by_cases hf : f = true ∧ n ≠ 10
      · rw [if_pos hf, if_pos (by simp [hf]), text_repl]
      · rw [if_neg hf, if_neg (by simpa using hf)]
        rfl
    · obtain ⟨c, t, hc⟩ := hiN_ne (by omega : 64 ≤ n)
      have hcg : ∀ x ∈ c :: t, 64 ≤ x := fun x hx => hiN_ge (n := n) (by rw [hc]; exact hx)
      have hc64 := hcg c (.head _)
      have e : (c == 10) = false := by simp; omega
      have e10 : (f && c != 10) = f := by simp; omega
      have en : (f = true ∧ n ≠ 10) = (f = true) := by simp; omega
      rw [textN_cons hn, textN_cons hn, hc, List.cons_append, indL, e, e10, ind_hi (fun x hx => hcg x (.tail _ hx)), ← ih]
      simp only [en]
      rw [indL]
      cases f
      · simp; rfl
      · simp [text_repl]
theorem seN_pos {k : Nat} {ns : List Nat} : ∀ {f : Bool}, (∀ n ∈ ns, 0 < n ∧ n < 2 ^ 18) → ∀ n ∈ seN k f ns, 0 < n ∧ n < 2 ^ 18 := by
  induction ns with
  | nil => intro f _ n hn; cases hn
  | cons a r ih =>
    intro f h n hn
    rw [seN] at hn
    rcases List.mem_append.mp hn with hn | hn
    · split at hn
      · rw [(List.mem_replicate.mp hn).2]; decide
      · cases hn
    · rcases List.mem_cons.mp hn with rfl | hn
      · exact h _ (.head _)
      · exact ih (fun x hx => h x (.tail _ hx)) n hn
theorem fmod_mod (n : Nat) : ((n : Int).fmod 64) = ((n % 64 : Nat) : Int) := by
  rw [Int.fmod_eq_emod_of_nonneg _ (by decide)]; rfl
theorem beq_cast (a b : Nat) : ((a : Int) == (b : Int)) = (a == b) := by
  by_cases h : a = b
  · subst h; simp
  · rw [show (a == b) = false by simpa using h]
    have : (a : Int) ≠ (b : Int) := fun q => h (by omega)
    simpa using this
theorem sent_fold : ∀ (ns : List Nat) (told : List Int) (f w : Bool),
    (let σ := (ns.map Int.ofNat).foldl sentStep (told, f, w); if σ.2.2 then σ.1 ++ [10] else σ.1) = told ++ (sentR f w ns).map Int.ofNat
  | [], told, f, w => by
    show (if w then told ++ [10] else told) = _
    rw [sentR]
    cases w <;> simp
  | n :: r, told, f, w => by
    rw [List.map_cons, List.foldl_cons]
    have e : sentStep (told, f, w) (Int.ofNat n) = (told ++ (outN f w n).map Int.ofNat, n % 64 == 10, n % 64 == 13) := by
      have h10 : ((Int.ofNat n).fmod 64 == 10) = (n % 64 == 10) := by
        show ((n : Int).fmod 64 == ((10 : Nat) : Int)) = _
        rw [fmod_mod, beq_cast]
      have h13 : ((Int.ofNat n).fmod 64 == 13) = (n % 64 == 13) := by
        show ((n : Int).fmod 64 == ((13 : Nat) : Int)) = _
        rw [fmod_mod, beq_cast]
      have hn10 : (Int.ofNat n == 10) = (n == 10) := beq_cast n 10
      have hn46 : (Int.ofNat n == 46) = (n == 46) := beq_cast n 46
      unfold sentStep
      simp only [h10, h13, hn10, hn46]
      unfold outN core
      cases w
      · simp only [Bool.false_and, Bool.false_eq_true, if_false]
        by_cases hf : f = true ∧ n = 46
        · obtain ⟨rfl, rfl⟩ := hf
          simp
        · have hf' : (f && n == 46) = false := by simpa using hf
          rw [if_neg hf, hf']
          by_cases hm : n % 64 = 10
          · simp [hm]
          · simp [hm]
      · simp only [Bool.true_and, if_true]
        by_cases hn : n = 10
        · subst hn
          simp
        · rw [if_neg (by simpa using hn), if_neg hn]
          by_cases hf : n = 46
          · subst hf
            simp
          · by_cases hm : n % 64 = 10
            · simp [hm, hf]
            · simp [hm, hf]
    rw [e]
    have ih := sent_fold r (told ++ (outN f w n).map Int.ofNat) (n % 64 == 10) (n % 64 == 13)
    rw [ih, sentR, List.map_append, List.append_assoc]
theorem sentL_eq (ns : List Nat) : sentL (ns.map Int.ofNat) = (sentR true false ns).map Int.ofNat := by
  have := sent_fold ns [] true false
  rw [List.nil_append] at this
  exact this
theorem set_fold (k : Nat) : ∀ (ns : List Nat) (told : List Int) (f : Bool), ((ns.map Int.ofNat).foldl (setStep k) (told, f)).1 = told ++ (seN k f ns).map Int.ofNat
  | [], told, f => by simp [seN]
  | n :: r, told, f => by
    rw [List.map_cons, List.foldl_cons]
    have e : setStep k (told, f) (Int.ofNat n) = (told ++ ((if f = true ∧ n ≠ 10 then List.replicate k 32 else []) ++ [n]).map Int.ofNat, n % 64 == 10) := by
      have h10 : ((Int.ofNat n).fmod 64 == 10) = (n % 64 == 10) := by
        show ((n : Int).fmod 64 == ((10 : Nat) : Int)) = _
        rw [fmod_mod, beq_cast]
      have hn10 : (Int.ofNat n == 10) = (n == 10) := beq_cast n 10
      unfold setStep
      simp only [h10, bne, hn10]
      by_cases hf : f = true ∧ n ≠ 10
      · rw [if_pos hf, if_pos (by simpa using hf)]
        simp
      · rw [if_neg hf, if_neg (by simpa using hf)]
        simp
    rw [e, set_fold k r, seN]
    simp
theorem setInL_eq (k : Nat) (ns : List Nat) : setInL k (ns.map Int.ofNat) = (seN k true ns).map Int.ofNat := by
  have := set_fold k ns [] true
  rw [List.nil_append] at this
  exact this
theorem figs_figsN : ∀ ds : List Nat, figs ds = (figsN ds).map Int.ofNat
  | [] => rfl
  | [d] => rfl
  | d :: e :: r => by rw [figs, figsN, List.map_cons, figs_figsN (e :: r)]; rfl
theorem text_ints (ns : List Nat) : (textN ns).map Int.ofNat = ((ns.map digsOf).map figs).flatten := by
  unfold textN
  rw [List.map_flatten, List.map_map, List.map_map]
  congr 1
  apply List.map_congr_left
  intro n _
  exact (figs_figsN _).symm
theorem foldV_rev (l : List Nat) : foldV l.reverse = valN 6 l := by
  unfold foldV
  induction l with
  | nil => rfl
  | cons d r ih =>
    rw [List.reverse_cons, List.foldl_append, ih]
    show valN 6 r * 64 + d = d + 2 ^ 6 * valN 6 r
    omega
theorem foldV_digs {n : Nat} (h : 0 < n) : foldV (digsOf n) = n := by
  unfold digsOf
  rw [foldV_rev, valN_digN]
  have := (cnt_spec (b := 6) (by decide) h).2.1
  rwa [Nat.mul_comm]
theorem digs_ok {n : Nat} (h : 0 < n) (h2 : n < 2 ^ 18) : (∀ d ∈ digsOf n, d < 64) ∧ 0 < (digsOf n).length ∧ (digsOf n).length ≤ 3 := by
  have h3 := (cnt_spec (b := 6) (by decide) h).2.2
  have h4 := intBits_le h2
  unfold digsOf
  refine ⟨fun d hd => digN_lt 6 _ _ d (List.mem_reverse.mp hd), ?_, ?_⟩
  · rw [List.length_reverse, digN_length]; exact h3
  · rw [List.length_reverse, digN_length]; omega
theorem text_len {ns : List Nat} (h : ∀ n ∈ ns, 0 < n ∧ n < 2 ^ 18) : (textN ns).length ≤ 3 * ns.length := by
  induction ns with
  | nil => simp [textN]
  | cons n r ih =>
    have hn := h n (.head _)
    have := digs_ok hn.1 hn.2
    have ih := ih (fun x hx => h x (.tail _ hx))
    show (figsN (digsOf n) ++ textN r).length ≤ _
    rw [List.length_append, figsN_length, List.length_cons]
    omega
theorem core_len (f : Bool) (n : Nat) : (core f n).length ≤ 3 := by
  unfold core
  split <;> split <;> simp
theorem outN_len (f w : Bool) (n : Nat) : (outN f w n).length ≤ 4 := by
  have := core_len true n
  have := core_len f n
  unfold outN
  split
  · split <;> simp <;> omega
  · omega
theorem sentR_len : ∀ (ns : List Nat) (f w : Bool), (sentR f w ns).length ≤ 4 * ns.length + 1
  | [], f, w => by unfold sentR; split <;> simp
  | n :: r, f, w => by
    have := sentR_len r (n % 64 == 10) (n % 64 == 13)
    have := outN_len f w n
    rw [sentR, List.length_append, List.length_cons]
    omega
theorem seN_len {k : Nat} (hk : k ≤ 3) : ∀ (ns : List Nat) (f : Bool), (seN k f ns).length ≤ 4 * ns.length
  | [], f => by simp [seN]
  | n :: r, f => by
    have := seN_len hk r (n % 64 == 10)
    rw [seN, List.length_append, List.length_cons, List.length_cons]
    split
    · rw [List.length_replicate]; omega
    · simp; omega

end
section
def sentP : Bool → Bool → List Nat → List Nat
  | _, _, [] => []
  | f, w, n :: r => outN f w n ++ sentP (n % 64 == 10) (n % 64 == 13) r
theorem sentR_append (l : Nat) (B : List Nat) : ∀ (F : List Nat) (f w : Bool), sentR f w (F ++ l :: B) = sentP f w (F ++ [l]) ++ sentR (l % 64 == 10) (l % 64 == 13) B
  | [], f, w => by simp [sentP, sentR]
  | n :: r, f, w => by rw [List.cons_append, sentR, sentR_append l B r, List.cons_append, sentP, List.append_assoc]
theorem outN_last (f w : Bool) (l : Nat) : ∃ Q x, outN f w l = Q ++ [x] ∧ (x % 64 == 10) = (l % 64 == 10) := by
  have hc : ∀ f, ∃ Q x, core f l = Q ++ [x] ∧ (x % 64 == 10) = (l % 64 == 10) := by
    intro f
    unfold core
    by_cases h : l % 64 = 10
    · rw [if_pos h]
      exact ⟨_ ++ [l + 3], 10, by rw [List.append_assoc]; rfl, by rw [h]⟩
    · rw [if_neg h]
      exact ⟨_, l, rfl, rfl⟩
  unfold outN
  split
  · split
    · rename_i h
      exact ⟨[], 10, rfl, by rw [h]⟩
    · obtain ⟨Q, x, e, h⟩ := hc true
      exact ⟨10 :: Q, x, by rw [e]; rfl, h⟩
  · exact hc f
theorem sentP_last (l : Nat) : ∀ (F : List Nat) (f w : Bool), ∃ Q x, sentP f w (F ++ [l]) = Q ++ [x] ∧ (x % 64 == 10) = (l % 64 == 10)
  | [], f, w => by
    obtain ⟨Q, x, e, h⟩ := outN_last f w l
    exact ⟨Q, x, by rw [List.nil_append, sentP, e, sentP, List.append_nil], h⟩
  | n :: r, f, w => by
    obtain ⟨Q, x, e, h⟩ := sentP_last l r (n % 64 == 10) (n % 64 == 13)
    exact ⟨outN f w n ++ Q, x, by rw [List.cons_append, sentP, e, List.append_assoc], h⟩
theorem seN_append (k x : Nat) (Y : List Nat) : ∀ (P : List Nat) (f : Bool), seN k f (P ++ x :: Y) = seN k f (P ++ [x]) ++ seN k (x % 64 == 10) Y
  | [], f => by simp [seN]
  | n :: r, f => by rw [List.cons_append, seN, seN_append k x Y r, List.cons_append, seN, List.append_assoc]; rfl
theorem seN_true (k n : Nat) (r : List Nat) : seN k true (n :: r) = (if n ≠ 10 then List.replicate k 32 else []) ++ seN k false (n :: r) := by
  rw [seN, seN]; simp
theorem seN_ten (k : Nat) (f : Bool) (r : List Nat) : seN k f (10 :: r) = 10 :: seN k true r := by
  rw [seN]; simp
theorem text_longer {k n : Nat} (hk : 1 ≤ k) (hn : n ≠ 10) (r : List Nat) : (textN (seN k false (n :: r))).length < (textN (seN k true (n :: r))).length := by
  rw [seN_true, if_pos hn, textN_append, text_repl, List.length_append, List.length_replicate]
  omega
theorem core_cons (f : Bool) (b : Nat) : ∃ y Z, core f b = y :: Z ∧ y ≠ 10 := by
  unfold core
  by_cases hf : f = true ∧ b = 46
  · rw [if_pos hf]
    exact ⟨46, _, rfl, by decide⟩
  · rw [if_neg hf]
    by_cases h : b % 64 = 10
    · rw [if_pos h]
      exact ⟨b + 3, _, rfl, by omega⟩
    · rw [if_neg h]
      exact ⟨b, _, rfl, by omega⟩
theorem claim1 {k : Nat} (hk : 1 ≤ k) (F : List Nat) (l b : Nat) (B : List Nat) :
    (textN (seN k true (sentR true false (F ++ [l]))) ++ textN (seN k true (sentR true false (b :: B))) = textN (seN k true (sentR true false (F ++ l :: b :: B)))) ↔ (l % 64 = 10 ∨ (l % 64 = 13 ∧ b ≠ 10)) := by
  obtain ⟨Q, x, eP, hx⟩ := sentP_last l F true false
  rw [sentR_append l [] F, sentR_append l (b :: B) F, eP, List.append_assoc, List.append_assoc, List.singleton_append, List.singleton_append, seN_append, seN_append k x (sentR _ _ (b :: B)), hx, textN_append, textN_append, List.append_assoc, List.append_cancel_left_eq]
  by_cases h10 : l % 64 = 10
  · rw [h10]
    simp [sentR, seN, textN_nil]
  · rw [show (l % 64 == 10) = false by simpa using h10]
    by_cases h13 : l % 64 = 13
    · rw [h13]
      simp only [beq_self_eq_true]
      have e0 : textN (seN k false (sentR false true [])) = [10] := by
        rw [sentR, if_pos rfl, seN_ten, text_small (by decide) (by decide)]; rfl
      rw [e0]
      by_cases hb : b = 10
      · subst hb
        have e1 : sentR false true (10 :: B) = 10 :: sentR true false B := rfl
        have e2 : sentR true false (10 :: B) = 13 :: 10 :: sentR true false B := rfl
        rw [e1, e2, seN_ten, seN_true, if_pos (by decide), textN_append, text_repl]
        have e3 : seN k false (13 :: 10 :: sentR true false B) = 13 :: 10 :: seN k true (sentR true false B) := by
          rw [seN, seN_ten]; simp
        rw [e3, text_small (c := 13) (by decide) (by decide), text_small (c := 10) (by decide) (by decide)]
        constructor
        · intro h
          have := congrArg List.length h
          simp only [List.length_append, List.length_cons, List.length_replicate, List.length_nil] at this
          omega
        · intro h
          omega
      · have e1 : sentR false true (b :: B) = 10 :: sentR true false (b :: B) := by
          rw [sentR, sentR, outN, outN]; simp [hb]
        rw [e1, seN_ten, text_small (c := 10) (by decide) (by decide)]
        constructor
        · intro _; exact .inr ⟨trivial, hb⟩
        · intro _; rfl
    · rw [show (l % 64 == 13) = false by simpa using h13]
      have hne : ¬ (textN (seN k false (sentR false false [])) ++ textN (seN k true (sentR true false (b :: B))) = textN (seN k false (sentR false false (b :: B)))) := by
        intro h
        have h := congrArg List.length h
        have e0 : textN (seN k false (sentR false false [])) = [] := rfl
        rw [e0, List.nil_append] at h
        have e1 : sentR true false (b :: B) = core true b ++ sentR (b % 64 == 10) (b % 64 == 13) B := rfl
        have e2 : sentR false false (b :: B) = core false b ++ sentR (b % 64 == 10) (b % 64 == 13) B := rfl
        rw [e1, e2] at h
        by_cases h46 : b = 46
        · subst h46
          have e3 : core true 46 = [46, 46] := rfl
          have e4 : core false 46 = [46] := rfl
          rw [e3, e4] at h
          generalize sentR (46 % 64 == 10) (46 % 64 == 13) B = R at h
          have h5 := text_longer (k := k) (n := 46) hk (by decide) (46 :: R)
          have e6 : seN k false (46 :: 46 :: R) = 46 :: seN k false (46 :: R) := by
            conv => lhs; rw [seN]
            simp
          rw [e6, text_small (c := 46) (by decide) (by decide), List.length_cons] at h5
          simp only [List.cons_append, List.nil_append] at h
          omega
        · have e3 : core true b = core false b := by unfold core; simp [h46]
          rw [e3] at h
          obtain ⟨y, Z, e4, hy⟩ := core_cons false b
          rw [e4, List.cons_append] at h
          have h5 := text_longer (k := k) hk hy (Z ++ sentR (b % 64 == 10) (b % 64 == 13) B)
          omega
      constructor
      · intro h; exact absurd h hne
      · intro h; omega
theorem claim2 {k : Nat} (hk : 1 ≤ k) (F : List Nat) (l b : Nat) (B : List Nat) :
    (textN (seN k true (F ++ [l])) ++ textN (seN k true (b :: B)) = textN (seN k true (F ++ l :: b :: B))) ↔ (l % 64 = 10 ∨ b = 10) := by
  rw [seN_append k l (b :: B) F, textN_append, List.append_cancel_left_eq]
  by_cases h10 : l % 64 = 10
  · rw [h10]
    simp
  · rw [show (l % 64 == 10) = false by simpa using h10]
    by_cases hb : b = 10
    · subst hb
      rw [seN_ten, seN_ten]
      simp
    · have h5 := text_longer (k := k) hk hb B
      constructor
      · intro h
        have := congrArg List.length h
        omega
      · intro h; omega

end
section
theorem valNlt {n : Nat} : ∀ {ns : List Nat}, (∀ d ∈ ns, d < 2 ^ n) → valN n ns < 2 ^ (ns.length * n)
  | [], _ => by simp [valN]
  | d :: r, h => by
    have hd := h d (.head _)
    have ih := valNlt (n := n) (ns := r) (fun x hx => h x (.tail _ hx))
    rw [valN, List.length_cons, Nat.succ_mul, Nat.add_comm (r.length * n), Nat.pow_add]
    calc d + 2 ^ n * valN n r < 2 ^ n + 2 ^ n * valN n r := by omega
      _ = 2 ^ n * (valN n r + 1) := by rw [Nat.mul_succ]; omega
      _ ≤ 2 ^ n * 2 ^ (r.length * n) := Nat.mul_le_mul_left _ ih
theorem digN_valN {n : Nat} : ∀ {ns : List Nat}, (∀ d ∈ ns, d < 2 ^ n) → digN n ns.length (valN n ns) = ns
  | [], _ => rfl
  | d :: r, h => by
    have hd := h d (.head _)
    rw [List.length_cons, digN_succ, valN, Nat.add_mul_mod_self_left, Nat.mod_eq_of_lt hd, Nat.add_mul_div_left _ _ (Nat.two_pow_pos n), Nat.div_eq_of_lt hd, Nat.zero_add, digN_valN (fun x hx => h x (.tail _ hx))]
theorem valN_pos {n : Nat} {ns : List Nat} (h0 : 0 < ns.length) (h : ∀ d ∈ ns, 0 < d) : 2 ^ (n * (ns.length - 1)) ≤ valN n ns := by
  induction ns with
  | nil => simp at h0
  | cons d r ih =>
    have hd := h d (.head _)
    cases r with
    | nil => simp [valN]; omega
    | cons e t =>
      have := ih (by simp) (fun x hx => h x (.tail _ hx))
      rw [valN]
      rw [List.length_cons, Nat.add_sub_cancel] at this ⊢
      rw [show (e :: t).length = t.length + 1 from rfl, Nat.mul_succ, Nat.pow_add, Nat.mul_comm]
      have := Nat.mul_le_mul_left (2 ^ n) this
      omega
theorem cnt_valN {n : Nat} (hn : 0 < n) {ns : List Nat} (h0 : 0 < ns.length) (h : ∀ d ∈ ns, 0 < d ∧ d < 2 ^ n) : (Builtin.Int.intBits ((valN n ns : Nat) : Int) + n - 1) / n = ns.length := by
  have h1 := valN_pos (n := n) h0 (fun d hd => (h d hd).1)
  have h2 := valNlt (n := n) (fun d hd => (h d hd).2)
  obtain ⟨k, hk⟩ : ∃ k, ns.length = k + 1 := ⟨ns.length - 1, by omega⟩
  rw [hk] at h1 h2 ⊢
  exact cnt_eq hn (by simpa using h1) (by rw [Nat.mul_comm]; exact h2)
theorem valN_gt0 {n : Nat} {ns : List Nat} (h0 : 0 < ns.length) (h : ∀ d ∈ ns, 0 < d) : 0 < valN n ns := Nat.lt_of_lt_of_le (Nat.two_pow_pos _) (valN_pos h0 h)
theorem valN_split {n c : Nat} {ns : List Nat} (hc : c ≤ ns.length) : valN n ns = valN n (ns.take c) + 2 ^ (n * c) * valN n (ns.drop c) := by
  have e := valN_append n (ns.take c) (ns.drop c)
  rw [List.take_append_drop, List.length_take, Nat.min_eq_left hc, Nat.mul_comm c n] at e
  exact e
theorem valN_div {n c : Nat} {ns : List Nat} (hc : c ≤ ns.length) (h : ∀ d ∈ ns, d < 2 ^ n) : valN n ns / 2 ^ (n * c) = valN n (ns.drop c) ∧ valN n ns % 2 ^ (n * c) = valN n (ns.take c) := by
  have hl := valNlt (n := n) (ns := ns.take c) (fun d hd => h d (List.mem_of_mem_take hd))
  rw [List.length_take, Nat.min_eq_left hc, Nat.mul_comm] at hl
  rw [valN_split hc, Nat.add_mul_div_left _ _ (Nat.two_pow_pos _), Nat.div_eq_of_lt hl, Nat.zero_add, Nat.add_mul_mod_self_left, Nat.mod_eq_of_lt hl]
  exact ⟨rfl, rfl⟩
theorem pred_divmod {x m : Nat} (hm : 0 < m) (h : 0 < x % m) : (x - 1) / m = x / m ∧ (x - 1) % m = x % m - 1 := by
  have e := Nat.div_add_mod x m
  have hlt := Nat.mod_lt x hm
  generalize x / m = q at *
  generalize x % m = r at *
  subst e
  have e2 : m * q + r - 1 = (r - 1) + m * q := by omega
  rw [e2, Nat.add_mul_div_left _ _ hm, Nat.add_mul_mod_self_left, Nat.div_eq_of_lt (by omega), Nat.mod_eq_of_lt (by omega)]
  omega
theorem bits_pow (m : Nat) : Builtin.Int.intBits ((2 ^ m : Nat) : Int) = m + 1 := by
  have h1 := intBits_le (x := 2 ^ m) (n := m + 1) (Nat.pow_lt_pow_right (by decide) (by omega))
  have h2 : m < Builtin.Int.intBits ((2 ^ m : Nat) : Int) := (Nat.pow_lt_pow_iff_right (by decide)).mp (intBits_lt (Nat.two_pow_pos m))
  omega
theorem pageL_ok (xs : List Int) : ∀ n ∈ pageL xs, 0 < n ∧ n < 2 ^ 18 := by
  intro n hn
  unfold pageL at hn
  rcases List.mem_append.mp hn with hn | hn
  · obtain ⟨x, _, rfl⟩ := List.mem_map.mp hn
    have h1 := pageNum_pos x
    have h2 := pageNum_lt x
    omega
  · simp only [List.mem_cons, List.not_mem_nil, or_false] at hn
    omega
theorem pageL_len (xs : List Int) : 6 ≤ (pageL xs).length ∧ (pageL xs).length ≤ 10 := by
  unfold pageL
  simp only [List.length_append, List.length_map, List.length_take, List.length_cons, List.length_nil]
  omega

end
section
/-- a fresh list laid on the ledger -/
theorem led_list {g h h' : Heap} {L l : Addr} {m : Str → Option Value} {news : List (Addr × Obj)} {ns : List Int} (F : Fr g L h m) (N : News g L h news) (x : NewList h h' l ns) :
    ∃ A n, Fr g L h' m ∧ News g L h' ((l, listOf (List.toArray A) n) :: news) ∧ IntsAre A ns ∧ (∀ p ∈ news, p.1 ≠ l) := by
  obtain ⟨hk, hf, A, n, hl, hi⟩ := x
  refine ⟨A.toList, n, fr_keeps F hk, ?_, hi, fun p hp e => by have := (N p hp).1; rw [e, hf] at this; cases this⟩
  refine news_cons ⟨hl, fun q => ?_, ?_⟩ (news_keeps N hk)
  · obtain ⟨o, _, _, ho, _⟩ := F.ns
    rw [q, ho] at hf; cases hf
  · cases q : g.get? l with
    | none => rfl
    | some o => have := F.keep _ _ q; rw [hf] at this; cases this
/-- a filled table and the code in it, laid on the ledger -/
theorem led_tab {P : Addr} {a b : Int} {q : Str} {g h h' : Heap} {L : Addr} {m : Str → Option Value} {news : List (Addr × Obj)} {news' : Addr → List (Addr × Obj)} {ps : Array Value} (F : Fr g L h m) (N : News g L h news)
    (hk : ∀ b o, b ≠ P → h.get? b = some o → h'.get? b = some o) (x : TabNew P a b q h h')
    (U : ∀ c', Upd P (tabObj ps) (tabObj #[rawInt a, rawInt b, .ref c']) news (news' c')) :
    ∃ c' oc vs t, Fr g L h' m ∧ News g L h' ((c', oc) :: news' c') ∧ oc.data = .fields vs ∧ vs[1]? = some (.str q t) ∧ (∀ p ∈ news, p.1 ≠ c') := by
  obtain ⟨c', oc, vs, t, hP, hc, hd, hv, hn⟩ := x
  obtain ⟨F', N'⟩ := led_upd F N (U c') hk hP
  refine ⟨c', oc, vs, t, F', ?_, hd, hv, fun p hp e => by have := (N p hp).1; rw [e, hn] at this; cases this⟩
  refine news_cons ⟨hc, fun e => ?_, ?_⟩ N'
  · obtain ⟨o, es, n, ho, hdd, _⟩ := F'.ns
    rw [e, ho] at hc
    cases hc
    rw [hdd] at hd
    cases hd
  · cases e : g.get? c' with
    | none => rfl
    | some o => have := F.keep _ _ e; rw [hn] at this; cases this
/-- the caller's ledger behind _law_read -/
theorem led_read {g h g' h' : Heap} {L l : Addr} {m : Str → Option Value} {news : List (Addr × Obj)} {ns : List Int} (F : Fr g L h m) (N : News g L h news) (T : KtsTurn [L] h g') (x : NewList g' h' l ns) :
    ∃ A n, Fr g L h' m ∧ News g L h' ((l, listOf (List.toArray A) n) :: news) ∧ IntsAre A ns := by
  obtain ⟨hk, hf, A, n, hl, hi⟩ := x
  have hkeep : ∀ b o, b ≠ L → h.get? b = some o → h'.get? b = some o := fun b o hb e => hk _ _ (T.other _ _ e (by simpa using hb))
  obtain ⟨oL, es, ep, hL, hLd, hLk, hLf⟩ := F.ns
  obtain ⟨sl, hs⟩ := T.frame _ _ hL (.head _)
  have F' : Fr g L h' m := by
    refine ⟨⟨_, es, ep, hk _ _ hs, hLd, hLk, hLf⟩, fun b o e => hkeep b o (fun q => ?_) (F.keep b o e), F.above⟩
    rw [q, kts_self F] at e; cases e
  refine ⟨A.toList, n, F', ?_, hi⟩
  refine news_cons ⟨hl, fun q => ?_, ?_⟩ (fun p hp => ⟨hkeep _ _ (N p hp).2.1 (N p hp).1, (N p hp).2⟩)
  · rw [q, hs] at hf; cases hf
  · cases q : g.get? l with
    | none => rfl
    | some o =>
      obtain ⟨sl', hs'⟩ := T.up (F.keep _ _ q)
      rw [hs'] at hf; cases hf
theorem fr_empty2 {h : Heap} {C : Addr} {m : Str → Option Value} (hn : h.Ns C m) : Fr { objs := #[] } C h m := ⟨hn, fun b o e => (by simp [Heap.get?] at e), Nat.zero_le _⟩
theorem ints_of_pairs2 {f : Int → Int} : ∀ {vs ys : List Value} {cs : List Int}, IntsAre vs cs → Paired (fun v y => ∃ c t u, v = Value.int c t ∧ y = Value.int (f c) u) vs ys → IntsAre ys (cs.map f)
  | _, _, _, .nil, .nil => .nil
  | _, _, _, .cons n t r, .cons h p => by
    obtain ⟨c, t', u, e, rfl⟩ := h
    cases e
    exact .cons _ _ (ints_of_pairs2 r p)
theorem compC_ints {prog : Program} {w : World} {A : Around} {E : Value → Shared → Prop} {s₁ : Shared} {h₀ : Heap} {L l : Addr} {m : Str → Option Value} {news : List (Addr × Obj)} {env : Env} {elt : Expr} {x : Str} {scope : Scope} {Q : Value → Shared → Prop} {vs : List Value} {cs : List Int}
    (hh : A.handled = none) (hl : s₁.heap.IsList l vs.toArray) (hi : IntsAre vs cs) (F : Fr h₀ L s₁.heap m) (N : News h₀ L s₁.heap news) (f : Int → Int) (hlen : cs.length ≤ 4000)
    (g2 : ∀ C c t s₂ m₂ E', c ∈ cs → Fr { objs := #[] } C s₂.heap m₂ → m₂ x = some (.int c t) → wpAny (model prog w) A (eval elt (compEnvC scope [] C env)) (fun y s₃ => Hold ((∃ u, y = .int (f c) u) ∧ PySem.Keeps s₂ s₃)) E' s₂)
    (g3 : ∀ D ys nD h' tk, Fr h₀ L h' m → News h₀ L h' ((D, listOf (List.toArray ys) nD) :: news) → (∀ p ∈ news, p.1 ≠ D) → IntsAre ys (cs.map f) → Q (.ref D) { s₁ with heap := h', toks := tk }) :
    wpAny (model prog w) A (pyIter (.ref l)) (fun it s₂ => ∃ I fp wr n P St, it = .ref I ∧ Walks prog w A I fp wr n P St ∧ n ≤ sizeLine ∧ St 0 s₂.heap ∧ (∀ b ∈ fp, b < s₂.heap.objs.size) ∧
      QuietOnC prog w A env scope [] x [] elt wr P (fun _ => true) (fun v y => ∃ c t u, v = Value.int c t ∧ y = Value.int (f c) u) s₂ ∧
      (∀ D h' tk ys (vs : List Value), s₂.heap.get? D = none → h'.IsList D ys → h'.PlainList D ys → vs.length = n → (∀ j v, vs[j]? = some v → P j v) → Paired (fun v y => ∃ c t u, v = Value.int c t ∧ y = Value.int (f c) u) (vs.filter (fun _ => true)) ys.toList →
        (∀ b o, b ∉ wr → s₂.heap.get? b = some o → h'.get? b = some o) → Q (.ref D) { s₂ with heap := h', toks := tk })) E s₁ := by
  have hlt : l < s₁.heap.objs.size := by obtain ⟨_, e, _⟩ := hl; exact Heap.lt_size e
  have hvl := hi.length
  refine wpAny_pyIter_list hl ?_
  refine ⟨s₁.heap.objs.size, [s₁.heap.objs.size, l], [s₁.heap.objs.size], vs.toArray.size, _, _, rfl, Walks.list hh _ l (Nat.ne_of_lt hlt) vs.toArray, (by rw [List.size_toArray, hvl, sizeLine_eq]; omega),
    ⟨⟨_, Heap.get?_push_size _ rfl, rfl, rfl⟩, hl.at fun o e => Heap.get?_push_of_some _ e⟩, ?_, ⟨?_, ?_⟩, ?_⟩
  · intro b hb
    show b < (s₁.heap.push _).objs.size
    rw [Heap.size_push]
    rcases List.mem_cons.mp hb with rfl | hb
    · exact Nat.lt_succ_self _
    · rw [List.mem_singleton.mp hb]; exact Nat.lt_succ_of_lt hlt
  · intro C i v s₃ m₃ E' _ _ _ _ _ _
    exact wpAny_pure ⟨rfl, s₃.heap, s₃.toks, rfl, fun _ _ e => e⟩
  · intro C i v s₃ m₃ E' _ hP _ hn hm _ htk
    have hP' : vs[i]? = some v := by simpa using hP
    have hil : i < cs.length := by rw [← hvl]; exact (List.getElem?_eq_some_iff.mp hP').1
    obtain ⟨t, ht⟩ := hi.get i cs[i] (by simp [hil])
    rw [hP'] at ht
    cases ht
    refine wpAny_mono (g2 C cs[i] t s₃ m₃ E' (List.getElem_mem _) (fr_empty2 hn) hm) (fun y s₄ hy => ?_) fun _ _ e => e
    obtain ⟨⟨u, rfl⟩, k⟩ := hy.out
    exact ⟨⟨_, t, u, rfl, rfl⟩, k⟩
  · intro D h' tk ys vs' hnew hlD hplD hlen hP hF hk
    have e' : vs' = vs := by simpa using walked_is hlen hP
    subst e'
    have hfil : vs'.filter (fun _ => true) = vs' := List.filter_eq_self.mpr (fun _ _ => rfl)
    obtain ⟨nD, hD⟩ := hplD
    have hnD : ∀ p ∈ news, p.1 ≠ D := fun p hp e => by rw [← e, Heap.get?_push_of_some _ (N p hp).1] at hnew; cases hnew
    have hLD : D ≠ L := fun e => by
      obtain ⟨o, _, _, ho, _⟩ := F.ns
      rw [e, Heap.get?_push_of_some _ ho] at hnew; cases hnew
    have h0D : h₀.get? D = none := by
      cases e : h₀.get? D with
      | none => rfl
      | some o' => rw [Heap.get?_push_of_some _ (F.keep _ _ e)] at hnew; cases hnew
    have kk : Keeps s₁.heap h' := fun b o e => hk b o (not_iter_of_old e) (Heap.get?_push_of_some _ e)
    refine g3 D ys.toList nD h' tk (fr_keeps F kk)
      (news_cons ⟨by rw [Array.toArray_toList]; exact hD, hLD, h0D⟩ (news_keeps N kk)) hnD (ints_of_pairs2 hi (hfil ▸ hF))
def CompSrcI (prog : Program) (w : World) (A : Around) (env : Env) (scope : Scope) (x : Str) (elt : Expr) (f : Int → Int) (Q : Value → Shared → Prop) (xv : Value) (s₁ : Shared) : Prop :=
  ∃ (l : Addr) (vs : List Value) (cs : List Int) (h₀ : Heap) (L : Addr) (m : Str → Option Value) (news : List (Addr × Obj)), xv = .ref l ∧ s₁.heap.IsList l vs.toArray ∧ IntsAre vs cs ∧ Fr h₀ L s₁.heap m ∧ News h₀ L s₁.heap news ∧ cs.length ≤ 4000 ∧
    (∀ C c t s₂ m₂ E', c ∈ cs → Fr { objs := #[] } C s₂.heap m₂ → m₂ x = some (.int c t) → wpAny (model prog w) A (eval elt (compEnvC scope [] C env)) (fun y s₃ => Hold ((∃ u, y = .int (f c) u) ∧ PySem.Keeps s₂ s₃)) E' s₂) ∧
    (∀ D ys nD h' tk, Fr h₀ L h' m → News h₀ L h' ((D, listOf (List.toArray ys) nD) :: news) → (∀ p ∈ news, p.1 ≠ D) → IntsAre ys (cs.map f) → Q (.ref D) { s₁ with heap := h', toks := tk })
theorem comp_all {prog : Program} {w : World} {A : Around} {E : Value → Shared → Prop} {s : Shared} {env : Env} {elt iter : Expr} {x : Str} {px : Pos} {scope : Scope} {pos : Pos} {Q : Value → Shared → Prop} (f : Int → Int)
    (hh : A.handled = none) (hclos : closureFor scope env = pure []) (hcell : ∀ y ∈ scope.names, y.2 ≠ .cell) (hkind : scope.kind = .function)
    (hnames : ∀ y ∈ scope.names, y.2 = .local → scope.names.lookup y.1 = some .local) (hx : scope.names.lookup x = some .local)
    (h : wpAny (model prog w) A (eval iter env) (CompSrcI prog w A env scope x elt f Q) E s)
    (hs : ∀ x, foldedSetIterable iter env x = pure x := by intro _; rfl) :
    wpAny (model prog w) A (eval (.ListComp elt [⟨.Name x px, iter, [], 0⟩] scope pos) env) Q E s := by
  refine wpAny_ListComp_free (cl := []) (fun _ => true) (fun v y => ∃ c t u, v = Value.int c t ∧ y = Value.int (f c) u) hclos hcell hkind hnames hx (wpAny_mono h (fun xv s₁ h₁ => ?_) fun _ _ e => e) hs
  obtain ⟨l, vs, cs, h₀, L, m, news, rfl, hl, hi, F, N, hlen, g2, g3⟩ := h₁
  exact compC_ints hh hl hi F N f hlen g2 g3
theorem news_sub {g h : Heap} {L : Addr} {news news' : List (Addr × Obj)} (N : News g L h news) (hs : ∀ p ∈ news', p ∈ news) : News g L h news' := fun p hp => N p (hs p hp)
theorem fmod_ex {a m : Int} (h : 0 < m) : ∃ c : Nat, a.fmod m = (c : Int) ∧ (c : Int) < m := by
  have h1 := Int.fmod_nonneg_of_pos a h
  have h2 := Int.fmod_lt_of_pos a h
  exact ⟨(a.fmod m).toNat, by omega, by omega⟩
def PgJ (lN : Addr) (ws : List Value) (nN : Nat) (o1 o2 : Obj) (ns : List Nat) (cut b : Nat) (i : Nat) (m : Str → Option Value) (nx : List (Addr × Obj)) : Prop :=
  ∃ (t1 t2 t3 : Tok), nx = [(lN, listOf ws.toArray nN), (67, o1), (60, o2)] ∧ m "numbers" = some (.ref lN) ∧ m "cut" = some (.int (cut : Nat) t1) ∧ m "blanks" = some (.int (b : Nat) t2) ∧ m "page" = some (.int ((valN 18 (ns.drop (ns.length - i)) : Nat) : Int) t3)
theorem led_miss {P : Addr} {a b : Int} {q : Str} {g h h' : Heap} {L : Addr} {m : Str → Option Value} {news : List (Addr × Obj)} {news' : Addr → List (Addr × Obj)} {ps : Array Value} {l : Addr} {vs' : List Value} (F : Fr g L h m) (N : News g L h news)
    (hk : ∀ b o, b ≠ P → h.get? b = some o → h'.get? b = some o) (x : TabNew P a b q h h')
    (U : ∀ c', Upd P (tabObj ps) (tabObj #[rawInt a, rawInt b, .ref c']) news (news' c')) (hs : h.objs.size ≤ l) (hl : h'.get? l = some (listOf (List.toArray vs') 0)) :
    ∃ c' oc vs t, Fr g L h' m ∧ News g L h' ((l, listOf (List.toArray vs') 0) :: (c', oc) :: news' c') ∧ oc.data = .fields vs ∧ vs[1]? = some (.str q t) ∧ (∀ p ∈ news, p.1 ≠ c') := by
  obtain ⟨c', oc, vs, t, F', N', h1, h2, h3⟩ := led_tab F N hk x U
  refine ⟨c', oc, vs, t, F', news_cons ⟨hl, Ne.symm (Nat.ne_of_lt (Nat.lt_of_lt_of_le F.ns.lt hs)), ?_⟩ N', h1, h2, h3⟩
  cases e : g.get? l with
  | none => rfl
  | some o => exact absurd (Nat.lt_of_lt_of_le (Heap.lt_size (F.keep _ _ e)) hs) (Nat.lt_irrefl _)
theorem tabI_of {h g : Heap} {L c : Addr} {oc : Obj} {vs : Array Value} {t : Tok} {news : List (Addr × Obj)} (N : News g L h news) (h1 : (60, tabObj #[rawInt 37, rawInt 4, .ref c]) ∈ news) (h2 : (c, oc) ∈ news)
    (hd : oc.data = .fields vs) (hv : vs[1]? = some (.str (Str.ofString "_int2digits.<locals>.inner") t)) : TabI h := ⟨c, (N _ h1).1, codeRec_news N h2 hd hv⟩
theorem tabD_of {h g : Heap} {L c : Addr} {oc : Obj} {vs : Array Value} {t : Tok} {news : List (Addr × Obj)} (N : News g L h news) (h1 : (67, tabObj #[rawInt 52, rawInt 4, .ref c]) ∈ news) (h2 : (c, oc) ∈ news)
    (hd : oc.data = .fields vs) (hv : vs[1]? = some (.str (Str.ofString "_digits2int.<locals>.inner") t)) : TabD h := ⟨c, (N _ h1).1, codeRec_news N h2 hd hv⟩
theorem m_ne_same {prog : Program} {w : World} {A : Around} {E : Value → Shared → Prop} {s : Shared} {a b : Addr} {xs ys : List Value} {ns ms : List Int} {Q : Value → Shared → Prop} (ha : s.heap.IsList a xs.toArray) (hb : s.heap.IsList b ys.toArray) (hi : IntsAre xs ns) (hj : IntsAre ys ms) (e : ns = ms) (hu : A.units + 64 < cLine) (h : Q (.bool false) s) :
    wpAny (model prog w) A (compareOp .NotEq (.ref a) (.ref b)) Q E s :=
  ke_ne_ints ha hb hi hj hu (by rw [decide_eq_true e]; exact h)

end
section
/-- all numbers of a page -/
def OkL (ns : List Nat) : Prop := ∀ n ∈ ns, 0 < n ∧ n < 2 ^ 18
theorem OkL.sent {ns : List Nat} (h : OkL ns) : OkL (sentR true false ns) := sentR_pos h
theorem OkL.setIn {ns : List Nat} {k : Nat} (h : OkL ns) : OkL (seN k true ns) := seN_pos h
theorem OkL.pos {ns : List Nat} (h : OkL ns) : ∀ n ∈ ns, 0 < n := fun n hn => (h n hn).1
section
variable {prog : Program} {w : World} {E : Value → Shared → Prop} {s : Shared} {Q : Value → Shared → Prop} {p : Program} {loose : List Str} {mean : ExcName → Option Value} {mg mb : Str → Option Value} {h00 : Heap} {L fa : Addr} {cd : Value} {name : Str} {scope : Scope} {m : Str → Option Value} {news : List (Addr × Obj)}
theorem law_text {l : Addr} {vs : List Value} {nl : Nat} {ns : List Nat} (W : W0 w p loose mean mg mb h00) (F : Fr h00 L s.heap m) (N : News h00 L s.heap news) (hT : TabI s.heap) (hl : (l, listOf vs.toArray nl) ∈ news) (hi : IntsAre vs (ns.map Int.ofNat)) (hok : OkL ns) (hlen : ns.length ≤ 1000)
    (h : ∀ h' tk t, Fr h00 L h' m → News h00 L h' news → Q (.str ⟨(textN ns).toArray⟩ t) { s with heap := h', toks := tk }) :
    wpAny (model prog w) (callerA.deeper (envOf name scope L fa cd)) (call (.ref 122) [.ref l]) Q E s := by
  refine wpAny_call ?_
  refine text_spec W F.keep hT ?z1 ?z2 (N.isList hl) hi hlen (fun n hn => ⟨(hok n hn).1, Nat.lt_of_lt_of_le (hok n hn).2 (by decide)⟩) ?_
  case z1 => show 1 + 300 + 1 + 200 < 1000; decide
  case z2 => show 4 + 3 + 100 < 9900; decide
  intro h' tk t hk
  exact h h' tk t (fr_keeps F hk) (news_keeps N hk)
theorem law_quote {ns : List Nat} {tt : Tok} (W : W0 w p loose mean mg mb h00) (F : Fr h00 L s.heap m) (N : News h00 L s.heap news) (hok : OkL ns) (hlen : ns.length ≤ 1000)
    (h : ∀ h' tk t, Fr h00 L h' m → News h00 L h' news → Q (.str ⟨(textN (sentR true false ns)).toArray⟩ t) { s with heap := h', toks := tk }) :
    wpAny (model prog w) (callerA.deeper (envOf name scope L fa cd)) (call (.ref 110) [.str ⟨(textN ns).toArray⟩ tt]) Q E s := by
  refine wpAny_call ?_
  refine quote_spec (W.X.keeps F.keep) (W.T.keeps F.keep) ?z1 (by have := text_len hok; omega) ?_
  case z1 => show 1 + 300 + 1 + 5 < 1000; decide
  intro t h' tk hk
  rw [quote_text hok.pos]
  exact h h' tk t (fr_keeps F hk) (news_keeps N hk)
theorem law_indent {ns : List Nat} {tt kt : Tok} {k : Nat} (W : W0 w p loose mean mg mb h00) (F : Fr h00 L s.heap m) (N : News h00 L s.heap news) (hok : OkL ns) (hlen : ns.length ≤ 1000) (hk1 : 1 ≤ k) (hk3 : k ≤ 3)
    (h : ∀ h' tk t, Fr h00 L h' m → News h00 L h' news → Q (.str ⟨(textN (seN k true ns)).toArray⟩ t) { s with heap := h', toks := tk }) :
    wpAny (model prog w) (callerA.deeper (envOf name scope L fa cd)) (call (.ref 44) [.str ⟨(textN ns).toArray⟩ tt, .int (k : Int) kt]) Q E s := by
  refine wpAny_call ?_
  refine indent_spec (W.X.keeps F.keep) (W.T.keeps F.keep) ?z1 (by have := text_len hok; omega) hk1 hk3 ?_
  case z1 => show 1 + 300 + 1 + 5 < 1000; decide
  intro t h' tk hk
  rw [ind_text k ns true hok.pos]
  exact h h' tk t (fr_keeps F hk) (news_keeps N hk)
theorem law_sent {l : Addr} {vs : List Value} {nl : Nat} {ns : List Nat} (W : W0 w p loose mean mg mb h00) (F : Fr h00 L s.heap m) (N : News h00 L s.heap news) (hl : (l, listOf vs.toArray nl) ∈ news) (hi : IntsAre vs (ns.map Int.ofNat)) (hlen : ns.length ≤ 1000)
    (h : ∀ h' tk l' A n, Fr h00 L h' m → News h00 L h' ((l', listOf (List.toArray A) n) :: news) → IntsAre A ((sentR true false ns).map Int.ofNat) → Q (.ref l') { s with heap := h', toks := tk }) :
    wpAny (model prog w) (callerA.deeper (envOf name scope L fa cd)) (call (.ref 134) [.ref l]) Q E s := by
  refine wpAny_call ?_
  refine sent_spec (W.X.keeps F.keep) (W.T.keeps F.keep) ?z1 ?z2 (N.isList hl) hi (by rw [List.length_map]; exact hlen) ?_
  case z1 => show 1 + 300 + 1 + 5 < 1000; decide
  case z2 => show 4 + 3 + 50 < 9900; decide
  intro l' h' tk NL
  rw [sentL_eq] at NL
  obtain ⟨A, n, F', N', hI, _⟩ := led_list F N NL
  exact h h' tk l' A n F' N' hI
theorem law_setin {l : Addr} {vs : List Value} {nl : Nat} {ns : List Nat} {k : Nat} {kt : Tok} (W : W0 w p loose mean mg mb h00) (F : Fr h00 L s.heap m) (N : News h00 L s.heap news) (hl : (l, listOf vs.toArray nl) ∈ news) (hi : IntsAre vs (ns.map Int.ofNat)) (hlen : ns.length ≤ 1000) (hk1 : 1 ≤ k) (hk3 : k ≤ 3)
    (h : ∀ h' tk l' A n, Fr h00 L h' m → News h00 L h' ((l', listOf (List.toArray A) n) :: news) → IntsAre A ((seN k true ns).map Int.ofNat) → Q (.ref l') { s with heap := h', toks := tk }) :
    wpAny (model prog w) (callerA.deeper (envOf name scope L fa cd)) (call (.ref 141) [.ref l, .int (k : Int) kt]) Q E s := by
  refine wpAny_call ?_
  refine setIn_spec (W.X.keeps F.keep) (W.T.keeps F.keep) ?z1 ?z2 (N.isList hl) hi (by rw [List.length_map]; exact hlen) hk1 hk3 ?_
  case z1 => show 1 + 300 + 1 + 5 < 1000; decide
  case z2 => show 4 + 3 + 50 < 9900; decide
  intro l' h' tk NL
  rw [setInL_eq] at NL
  obtain ⟨A, n, F', N', hI, _⟩ := led_list F N NL
  exact h h' tk l' A n F' N' hI
theorem law_read {ns : List Nat} {tt : Tok} (W : W0 w p loose mean mg mb h00) (K0 : Below callerA h00 [] h00) (F : Fr h00 L s.heap m) (N : News h00 L s.heap news) (hok : OkL ns) (hlen : ns.length ≤ 1000)
    (h : ∀ h' tk l' A n, Fr h00 L h' m → News h00 L h' ((l', listOf (List.toArray A) n) :: news) → IntsAre A (ns.map Int.ofNat) → Q (.ref l') { s with heap := h', toks := tk }) (hk : scope.kind = .function := by rfl) :
    wpAny (model prog w) (callerA.deeper (envOf name scope L fa cd)) (call (.ref 127) [.str ⟨(textN ns).toArray⟩ tt]) Q E s := by
  refine wpAny_call ?_
  have hd : KtsDicts ([envOf name scope L fa cd].filterMap (·.frame)) s.heap := by
    intro b hb
    obtain rfl : b = L := List.mem_singleton.mp hb
    obtain ⟨o, es, n, ho, hd, _⟩ := F.ns
    exact ⟨o, es, n, ho, hd⟩
  refine read_spec (tss := ns.map digsOf) (outer := [envOf name scope L fa cd]) W.X W.T F.keep (K0.push F hk) ?z1 ?z2 (by have := text_len hok; omega) (by rw [List.length_map]; omega) (text_ints ns) ?_ hd ?_
  case z1 => show 1 + 300 + 1 + 30 < 1000; decide
  case z2 => show 4 + 3 + 60 < 9900; decide
  · intro ds hds
    obtain ⟨n, hn, rfl⟩ := List.mem_map.mp hds
    obtain ⟨a, b, c⟩ := digs_ok (hok n hn).1 (hok n hn).2
    exact ⟨a, b, by omega⟩
  · intro g' l' h' tk T NL
    have e : (ns.map digsOf).map (fun d => ((foldV d : Nat) : Int)) = ns.map Int.ofNat := by
      rw [List.map_map]
      apply List.map_congr_left
      intro n hn
      show ((foldV (digsOf n) : Nat) : Int) = _
      rw [foldV_digs (hok n hn).1]
      rfl
    rw [e] at NL
    obtain ⟨A, n, F', N', hI⟩ := led_read F N T NL
    exact h h' tk l' A n F' N' hI
theorem text_glue (a b : List Nat) : (⟨(textN a).toArray⟩ : Str) ++ (⟨(textN b).toArray⟩ : Str) = ⟨(textN (a ++ b)).toArray⟩ := by
  rw [textN_append]
  show (⟨(textN a).toArray ++ (textN b).toArray⟩ : Str) = _
  simp
theorem law_add {A : Around} {a b : List Nat} {t u : Tok} (ha : (textN a).length ≤ 20000) (hb : (textN b).length ≤ 20000) (h : ∀ t' tk, Q (.str ⟨(textN (a ++ b)).toArray⟩ t') { s with toks := tk }) :
    wpAny (model prog w) A (binaryOp .Add (.str ⟨(textN a).toArray⟩ t) (.str ⟨(textN b).toArray⟩ u)) Q E s := by
  refine PyProof.Rows.add_str ?_ ?_
  · rw [text_glue]; exact h
  · show (textN a).toArray.size + (textN b).toArray.size ≤ sizeLine
    rw [sizeLine_eq, List.size_toArray, List.size_toArray]
    omega
theorem law_ne_str {A : Around} {x : Str} {t u : Tok} (h : Q (.bool false) s) : wpAny (model prog w) A (compareOp .NotEq (.str x t) (.str x u)) Q E s := by
  refine PyProof.Rows.ne_str ?_
  rw [show (x != x) = false by simp]
  exact h
theorem law_eq_str {A : Around} {a b : List Nat} {t u : Tok} (h : Q (.bool (decide (textN a = textN b))) s) : wpAny (model prog w) A (compareOp .Eq (.str ⟨(textN a).toArray⟩ t) (.str ⟨(textN b).toArray⟩ u)) Q E s := by
  refine PyProof.Rows.eq_str ?_
  have e : ((⟨(textN a).toArray⟩ : Str) == ⟨(textN b).toArray⟩) = decide (textN a = textN b) := by
    by_cases h : textN a = textN b
    · rw [h]; simp
    · have h2 : (⟨(textN a).toArray⟩ : Str) ≠ ⟨(textN b).toArray⟩ := fun q => h (by have := congrArg (fun x : Str => x.cps.toList) q; simpa using this)
      rw [decide_eq_false h]
      simpa using h2
  rw [e]
  exact h
end
theorem m_isnot_same {M : Model} {A : Around} {E : Value → Shared → Prop} {s : Shared} {Q : Value → Shared → Prop} {c : Bool} (h : Q (.bool false) s) : wpAny M A (compareOp .IsNot (.bool c) (.bool c)) Q E s := by
  refine PyProof.Rows.isnot_bool ?_
  rw [bne_self_eq_false]
  exact h
theorem clo_a {d b : Nat} (h : d = 10) : (((d : Nat) : Int) == 10) = decide (d = 10 ∨ (d = 13 ∧ b ≠ 10)) := by
  subst h; simp
theorem clo_b {d b : Nat} {B : List Nat} (h : d = 13) : ((List.map Int.ofNat (b :: B)).getD (Int.toNat 0) 0 != 10) = decide (d = 10 ∨ (d = 13 ∧ b ≠ 10)) := by
  subst h
  show (((b : Nat) : Int) != 10) = _
  by_cases hb : b = 10
  · subst hb; simp
  · have : ((b : Nat) : Int) ≠ 10 := by omega
    simp [hb, this]
theorem clo_c {d b : Nat} (h1 : d ≠ 10) (h2 : d ≠ 13) : (((d : Nat) : Int) == 13) = decide (d = 10 ∨ (d = 13 ∧ b ≠ 10)) := by
  have : ((d : Nat) : Int) ≠ 13 := by omega
  simp [h1, h2, this]
theorem fin_a {d b : Nat} (h : d = 10) : (decide (d = 10 ∨ b = 10) == (((d : Nat) : Int) == 10)) = true := by
  subst h; simp
theorem fin_b {d b : Nat} {B : List Nat} (h : d ≠ 10) : (decide (d = 10 ∨ b = 10) == ((List.map Int.ofNat (b :: B)).getD (Int.toNat 0) 0 == 10)) = true := by
  show (_ == (((b : Nat) : Int) == 10)) = true
  by_cases hb : b = 10
  · subst hb; simp
  · have : ((b : Nat) : Int) ≠ 10 := by omega
    simp [h, hb, this]
theorem eqC1 {k : Nat} (hk : 1 ≤ k) (F : List Nat) (l b : Nat) (B : List Nat) :
    decide (textN (seN k true (sentR true false (F ++ [l])) ++ seN k true (sentR true false (b :: B))) = textN (seN k true (sentR true false (F ++ [l] ++ b :: B)))) = decide (l % 64 = 10 ∨ (l % 64 = 13 ∧ b ≠ 10)) :=
  decide_eq_decide.mpr (by rw [textN_append, List.append_assoc]; exact claim1 hk F l b B)
theorem eqC2 {k : Nat} (hk : 1 ≤ k) (F : List Nat) (l b : Nat) (B : List Nat) :
    decide (textN (seN k true (F ++ [l]) ++ seN k true (b :: B)) = textN (seN k true (F ++ [l] ++ b :: B))) = decide (l % 64 = 10 ∨ b = 10) :=
  decide_eq_decide.mpr (by rw [textN_append, List.append_assoc]; exact claim2 hk F l b B)

end
theorem marks_Law : True := by
  w_on
  w_top off
  k_with_none
  trivial
section
local macro_rules | `(tactic| walk_at "eval ListComp") => `(tactic| k_extra "m comp")
local macro_rules | `(tactic| walk_at "binaryOp Mod int int") => `(tactic| k_extra "m mod")
local macro_rules | `(tactic| walk_at "compareOp NotEq ref ref") => `(tactic| k_extra "m cmp")
local macro_rules | `(tactic| walk_at "subscriptTail Name Slice ref ref") => `(tactic| k_extra "m slice")
local macro_rules | `(tactic| walk_at "binaryOp Add str str") => `(tactic| k_extra "m adds")
local macro_rules | `(tactic| walk_at "compareOp NotEq str str") => `(tactic| k_extra "m nes")
local macro_rules | `(tactic| walk_at "compareOp Eq str str") => `(tactic| k_extra "m eqs")
local macro_rules | `(tactic| walk_at "compareOp IsNot bool bool") => `(tactic| k_extra "m isn")
local macro_rules | `(tactic| walk_at "compareOp Is bool bool") => `(tactic| k_extra "m is")
def LawQ (h00 : Heap) (L : Addr) (s₁ : Shared) (f : Flow) (s' : Shared) : Prop :=
  f = .ret (.bool true) ∧ ∃ h' tk m ps qs, s' = { s₁ with heap := h', toks := tk } ∧ Fr h00 L h' m ∧ News h00 L h' [(67, tabObj ps), (60, tabObj qs)]
theorem law_holds : PySem.Challenge.rw_ty0019_01.Holds := hd (by
  k_go0
  all_goals (try k_fold)
  rename (hd.heap_39 _).In (ghostOf _ _) => X0
  rename Top _ _ _ _ _ (ghostOf _ _) => T0
  rename Below callerA (ghostOf _ _) [] (ghostOf _ _) => K0
  rename CodeHd _ (71, 67).fst _ => CD
  rename CodeHd _ (64, 60).fst _ => CI
  rename Fr (ghostOf _ _) _ _ _ => F0
  rename News (ghostOf _ _) _ _ _ => N0
  rename_i w s0 s1 mg mb hG hY fa oz pm cd doc kV ho hcd hgens X V T B TE TW xs hs hlay0 hL1 hr1 hl2 w4 w3 lx vs wz hLz ra w1 r0 hI hr hc63 hcond hD h1 l0
  have hx63 : xs.length ≤ 63 := by omega
  have W := W0.mk X0 T0 CI CD (N0 _ (.tail _ (.head _))).2.2 (N0 _ (.head _)).2.2
  k_with_none
  k_with "m call" => (refine hold_out ?_)
  k_with "pyIter ref" => (refine hold_out ?_)
  k_with "m comp" => (refine hold_out ?_)
  k_with "InvEndN" => (refine Hold.out ?_)
  refine' wpAny_mono (Q := LawQ (ghostOf s1.heap [(71, 67), (64, 60)]) s1.heap.objs.size s1) (E := fun _ _ => False) ?main ?fin1 ?fin2
  case fin2 => intro e s' he; exact he.elim
  case fin1 =>
    rintro f s' ⟨rfl, h', tk, m, ps, qs, rfl, F, N⟩
    clear N0 F0
    dsimp only
    refine ⟨⟨.inl ⟨.bool true, .bool true, [], rfl, fun _ => ?r1, ReadsW.bool _, ?r2, fun _ => ⟨List.nodup_nil, fun a ha => nomatch ha⟩⟩, F.keep, rfl, hgens⟩, GrownAt.of N (.head _), GrownAt.of N (.tail _ (.head _)), trivial⟩
    case r1 => rfl
    case r2 => wrow_post
  case main =>
    clear hG hY hcd hgens X V T B TE TW hs hlay0 hL1 hr1 hl2 ra w1 r0 hr hc63 hcond hD hT8 hT9 hLz
    clear ho
    generalize ghostOf s1.heap [(71, 67), (64, 60)] = h00 at *
    generalize s1.heap.objs.size = L at *
    walk_at "m steps"
    refine hold_intro ?_
    rename Fr _ _ _ _ => F1
    rename News _ _ _ _ => N1
    have hL1 := lifted.at fun o e => F1.keep _ o e
    refine wpAny_call ?_
    refine page_spec (X0.keeps F1.keep) (T0.keeps F1.keep) ?z1 ?z2 hL1 hI (by omega) ?_
    case z1 => show 1 + 300 + 1 + 5 < 1000; decide
    case z2 => show 4 + 3 + 50 < 9900; decide
    intro lN h2 tk2 NL2
    obtain ⟨ws, nN, F2, N2, hIN, hneN⟩ := led_list F1 N1 NL2
    have hN67 : @Ne Nat 67 lN := hneN _ (.head _)
    have hN60 : @Ne Nat 60 lN := hneN _ (.tail _ (.head _))
    clear hneN
    clear F1 N1 NL2
    obtain ⟨hp6, hp10⟩ := pageL_len xs
    have hok := pageL_ok xs
    generalize pageL xs = ns at hp6 hp10 hok hIN
    have hsz : ws.toArray.size = ns.length := by have := hIN.length; simpa using this
    try dsimp only
    walk_at "m steps"
    refine hold_intro ?_
    refine' comp_all (fun c => c.fmod 1000000) ?d0 ?d1 ?d2 ?d3 ?d4 ?d5 ?dh ?ds
    (case d0 => rfl)
    (case d1 => rfl)
    (case d2 => decide)
    (case d3 => rfl)
    (case d4 => decide)
    (case d5 => rfl)
    (case ds => intro _; rfl)
    walk_at "m steps"
    rename Fr _ _ _ _ => F3
    rename News _ _ _ _ => N3
    rename IntsAre _ (List.take 4 xs) => hI3
    refine ⟨_, _, _, _, _, _, _, rfl, N3.isList (.head _), hI3, F3, N3, by rw [List.length_take]; omega, ?_, ?_⟩
    · intro C c t2 s₂ m₂ E' hc F6 hm
      obtain ⟨u6, rfl⟩ := frame1 hm
      have N6 : News { objs := #[] } C s₂.heap [] := News.nil
      clear F3 N3
      walk_at "m steps"
      all_goals (first | exact Hold.intro ⟨⟨_, rfl⟩, s₂.heap, _, rfl, fun _ _ e => e⟩ | exact Str.empty | exact Value.none | exact [] | exact (0 : Nat))
    intro D ys nD h4 tk4 F4 N4 hD4 hi4
    clear F3 N3 hD4
    try dsimp only
    k_with "m mod" => (refine hold_out ?_)
    walk_at "m steps"
    refine hold_intro ?_
    rename Fr _ _ _ _ => F5
    rename News _ _ _ _ => N5
    clear hI3
    generalize (List.map (fun c : Int => c.fmod 1000000) (List.take 4 xs)).sum = total at F5 ⊢
    refine mod_int (by omega) ?_
    obtain ⟨c, ec, hc⟩ := fmod_ex (a := total + 1) (m := (ns.length : Int) - 1) (by omega)
    rw [ec]
    try dsimp only
    walk_at "m steps"
    refine hold_intro ?_
    rename Fr _ _ _ _ => F6
    rename News _ _ _ _ => N6
    refine mod_int (by omega) ?_
    obtain ⟨b, eb, hb⟩ := fmod_ex (a := total) (m := 3) (by omega)
    rw [eb]
    replace N6 := news_sub (news' := [(lN, listOf ws.toArray nN), (67, tabObj #[]), (60, tabObj #[])]) N6 (fun p hp => .tail _ (.tail _ hp))
    have hcl : c + 1 < ns.length := by omega
    have hc1 : 1 ≤ c + 1 := by omega
    have hb3 : b < 3 := by omega
    clear ec eb hc hb
    rw [show (1 : Int) + (c : Int) = ((c + 1 : Nat) : Int) by omega] at F6
    generalize c + 1 = cut at F6 hcl hc1
    clear hi4
    try dsimp only
    walk_at "m steps"
    refine hold_intro ?_
    rename Fr _ _ _ _ => F7
    rename News _ _ _ _ => N7
    rename @And (@LT.lt Nat _ _ _) _ => l7
    rw [show (1 : Int) + (b : Int) = ((b + 1 : Nat) : Int) by omega] at F7
    have hb1 : 1 ≤ b + 1 := by omega
    have hb4 : b + 1 ≤ 3 := by omega
    clear hb3
    generalize b + 1 = bl at F7 hb1 hb4
    refine' iter_revN (PgJ lN ws nN (tabObj #[]) (tabObj #[]) ns cut bl) ?k1 (.head _) hIN F7 N7 ?k2 ?k3 ?turn ?done
    case k1 => exact rfl
    case k2 =>
      intro p hp
      simp only [List.mem_cons, List.not_mem_nil, or_false] at hp
      rcases hp with rfl | rfl | rfl
      · exact l7.1
      · exact l7.2.1
      · exact l7.2.2
    case k3 => exact ⟨_, _, _, rfl, rfl, rfl, rfl, by rw [Nat.sub_zero, List.drop_length]; rfl⟩
    case turn =>
      rintro i d t m₁ nx₁ hh tk own hd' _ hoff hl₁ ⟨t1, t2, t3, rfl, q1, q2, q3, q4⟩ F₁ N₁
      obtain ⟨u, rfl⟩ := frame4 q4 q1 q2 q3
      clear q1 q2 q3 q4 F7 N7
      obtain ⟨hi', e, rfl, hem, hdrop⟩ := drop_pred hd'
      dsimp only [List.map_cons, List.map_nil, List.cons_append, List.nil_append] at F₁ N₁ hoff ⊢
      k_with "m mul" => (refine hold_out ?_)
      walk_at "m steps"
      refine hold_intro ?_
      refine PyProof.Rows.mul_int ?_ (IntMulOk.of_left (by decide +kernel))
      try dsimp only
      walk_at "m steps"
      refine Hold.intro ?_
      rename News _ _ _ _ => N9
      rename Fr _ _ _ _ => F9
      have ev : (262144 : Int) * ((valN 18 (ns.drop (ns.length - i)) : Nat) : Int) + (e : Int) = ((valN 18 (ns.drop (ns.length - (i + 1))) : Nat) : Int) := by
        rw [hdrop, valN]
        generalize valN 18 (ns.drop (ns.length - i)) = V
        omega
      rw [ev] at F9
      refine InvEndN.intro (nx := [(lN, listOf ws.toArray nN), (67, tabObj #[]), (60, tabObj #[])]) F9 N9 ?kj rfl ?km ?ko
      (case kj => exact ⟨.head _, _, _, _, rfl, rfl, rfl, rfl, rfl⟩)
      (case km =>
        intro p hp
        simp only [List.mem_cons, List.not_mem_nil, or_false] at hp
        rcases hp with rfl | rfl | rfl
        · k_mem
        · k_mem
        · k_mem)
      (case ko => intro p hp; k_ownIn)
    case done =>
      rintro m₁ nx₁ hh tk hadr hl₁ ⟨t1, t2, t3, rfl, q1, q2, q3, q4⟩ F₁ N₁
      obtain ⟨u, rfl⟩ := frame4 q1 q2 q3 q4
      rw [List.length_map, Nat.sub_self, List.drop_zero] at F₁
      clear q1 q2 q3 q4 F7 N7 hadr hl₁ l7
      have hpg : 0 < valN 18 ns := valN_gt0 (by omega) (fun d hd => (hok d hd).1)
      have hpl : valN 18 ns < 2 ^ (ns.length * 18) := valNlt (fun d hd => (hok d hd).2)
      have hcnt : (Builtin.Int.intBits ((valN 18 ns : Nat) : Int) + 18 - 1) / 18 = ns.length := cnt_valN (by decide) (by omega) hok
      dsimp only
      walk_at "m steps"
      refine hold_intro ?_
      rename Fr _ _ _ _ => F8
      rename News _ _ _ _ => N8
      refine wpAny_call ?_
      refine int2_miss (n := 18) W F8.keep (N8 _ (.tail _ (.tail _ (.head _)))).1 ?z1 ?z2 ?z3 hcnt (by omega) hpl hpg (by omega) ?_
      case z1 => show 1 + 300 + 1 + 100 < 1000; decide
      case z2 => decide
      case z3 => decide
      intro lA h9 tk9 vsA hk9 hT9 hs9 hl9 hi9
      rw [digN_valN (fun d hd => (hok d hd).2)] at hi9
      obtain ⟨cI, oI, vI, tI, F9, N9, hdI, hvI, hneI⟩ := led_miss (news' := fun c' => [(lN, listOf ws.toArray nN), (67, tabObj #[]), (60, tabObj #[rawInt 37, rawInt 4, .ref c'])]) F8 N8 hk9 hT9 (fun c' => .tail hN60.symm (.tail (by decide) (.head (fun p hp => nomatch hp)))) hs9 hl9
      have hcI : @Ne Nat 67 cI := hneI _ (.tail _ (.head _))
      clear F8 N8 hk9 hT9 hs9 hl9 hneI
      try dsimp only
      walk_at "m steps"
      refine hold_intro ?_
      rename Fr _ _ _ _ => F8
      rename News _ _ _ _ => N8
      replace N8 := news_sub (news' := [(cI, oI), (lN, listOf ws.toArray nN), (67, tabObj #[]), (60, tabObj #[rawInt 37, rawInt 4, .ref cI])]) N8 (fun p hp => .tail _ hp)
      clear hi9
      refine wpAny_call ?_
      refine dig2_miss (n := 18) W F8.keep (N8 _ (.tail _ (.tail _ (.head _)))).1 ?z1 ?z2 ?z3 (N8.isList (.tail _ (.head _))) hIN (fun d hd => (hok d hd).2) (by omega) (by omega) ?_
      case z1 => show 1 + 300 + 1 + 100 < 1000; decide
      case z2 => decide
      case z3 => decide
      intro h9 tk9 t9 hk9 hT9
      obtain ⟨cD, oD, vD, tD, F9, N9, hdD, hvD, _⟩ := led_tab (news' := fun c' => [(cI, oI), (lN, listOf ws.toArray nN), (67, tabObj #[rawInt 52, rawInt 4, .ref c']), (60, tabObj #[rawInt 37, rawInt 4, .ref cI])]) F8 N8 hk9 hT9 (fun c' => .tail hcI.symm (.tail hN67.symm (.head (fun p hp => by rw [List.mem_singleton.mp hp]; exact (by decide : (60 : Nat) ≠ 67)))))
      clear F8 N8 hk9 hT9
      have hdm := valN_div (n := 18) (c := cut) (ns := ns) (by omega) (fun d hd => (hok d hd).2)
      have hokT : ∀ d ∈ ns.take cut, 0 < d ∧ d < 2 ^ 18 := fun d hd => hok d (List.mem_of_mem_take hd)
      have hokD : ∀ d ∈ ns.drop cut, 0 < d ∧ d < 2 ^ 18 := fun d hd => hok d (List.mem_of_mem_drop hd)
      have hlT : (ns.take cut).length = cut := by rw [List.length_take]; omega
      have hlD : (ns.drop cut).length = ns.length - cut := List.length_drop ..
      have hU0 : 0 < valN 18 (ns.drop cut) := valN_gt0 (by omega) (fun d hd => (hokD d hd).1)
      have hT0 : 0 < valN 18 (ns.take cut) := valN_gt0 (by omega) (fun d hd => (hokT d hd).1)
      have hUl := valNlt (n := 18) (fun d hd => (hokD d hd).2)
      have hTl := valNlt (n := 18) (fun d hd => (hokT d hd).2)
      have hUc := cnt_valN (n := 18) (by decide) (by omega) hokD
      have hTc := cnt_valN (n := 18) (by decide) (by omega) hokT
      have hUd := digN_valN (n := 18) (fun d hd => (hokD d hd).2)
      have hTd := digN_valN (n := 18) (fun d hd => (hokT d hd).2)
      generalize valN 18 ns = pg at F9 hpg hpl hcnt hdm ⊢
      generalize valN 18 (ns.drop cut) = U at hdm hU0 hUl hUc hUd
      generalize valN 18 (ns.take cut) = Lo at hdm hT0 hTl hTc hTd
      try dsimp only
      k_with "m pow" => (refine hold_out ?_)
      walk_at "m steps"
      · rename_i hh; exact absurd rfl hh
      refine hold_intro ?_
      refine PyProof.Rows.mul_int ?_ (IntMulOk.of_left (by decide +kernel))
      rw [show (18 : Int) * (cut : Int) = ((18 * cut : Nat) : Int) by omega]
      try dsimp only
      walk_at "m steps"
      refine hold_intro ?_
      refine pow_int_small (by omega) (by omega) (by decide) ?_
      rw [Int.toNat_natCast, pow_nat]
      have hbb := bits_pow (18 * cut)
      have hB0 := Nat.two_pow_pos (18 * cut)
      have hBl : 2 ^ (18 * cut) < 2 ^ (18 * cut + 1) := Nat.pow_lt_pow_right (by decide) (by omega)
      generalize 2 ^ (18 * cut) = B at hbb hB0 hBl hdm ⊢
      try dsimp only
      walk_at "m steps"
      refine hold_intro ?_
      rename Fr _ _ _ _ => F5
      rename News _ _ _ _ => N5
      have hbp := intBits_le hpl
      have hcs := cnt_spec (b := 18 * cut + 1) (x := pg) (by omega) hpg
      have hc12 : (Builtin.Int.intBits (pg : Int) + (18 * cut + 1) - 1) / (18 * cut + 1) ≤ 12 := Nat.le_of_lt_succ (by rw [Nat.div_lt_iff_lt_mul (by omega)]; omega)
      have hpgr : B * U + Lo = pg := by have := Nat.div_add_mod pg B; rw [hdm.1, hdm.2] at this; exact this
      have hBU : 0 < B * U := Nat.mul_pos hB0 hU0
      have hp1 := pred_divmod (x := pg) hB0 (by rw [hdm.2]; exact hT0)
      have hpl1 : pg - 1 < 2 ^ (ns.length * 18) := by omega
      have hbp1 := intBits_le hpl1
      have hcs1 := cnt_spec (b := 18 * cut + 1) (x := pg - 1) (by omega) (by omega)
      have hc121 : (Builtin.Int.intBits ((pg - 1 : Nat) : Int) + (18 * cut + 1) - 1) / (18 * cut + 1) ≤ 12 := Nat.le_of_lt_succ (by rw [Nat.div_lt_iff_lt_mul (by omega)]; omega)
      refine wpAny_call ?_
      refine intDiv_pos (n := 18 * cut + 1) W F5.keep (tabI_of (c := cI) N5 (by k_mem) (by k_mem) hdI hvI) (tabD_of (c := cD) N5 (by k_mem) (by k_mem) hdD hvD) ?z1 ?z2 hB0 hbb (by omega) (by omega) hBl rfl hc12 (by rw [Nat.mul_comm]; exact hcs.2.1) hpg hcs.2.2 ?_
      case z1 => show 1 + 300 + 1 + 210 < 1000; decide
      case z2 => show 4 + 3 + 110 < 9900; decide
      intro lp h6 tk6 P6
      rw [hdm.1, hdm.2] at P6
      obtain ⟨tu, tv, F6, N6, _, _⟩ := led_pair F5 N5 P6
      clear F5 N5 P6
      try dsimp only
      walk_at "m steps"
      refine hold_intro ?_
      rename Fr _ _ _ _ => F5
      rename News _ _ _ _ => N5
      replace N5 := news_sub (news' := [(cD, oD), (cI, oI), (lN, listOf ws.toArray nN), (67, tabObj #[rawInt 52, rawInt 4, .ref cD]), (60, tabObj #[rawInt 37, rawInt 4, .ref cI])]) N5 (fun p hp => .tail _ hp)
      refine wpAny_call ?_
      refine intDiv_neg (a := pg - 1) (n := 18 * cut + 1) W F5.keep (tabI_of (c := cI) N5 (by k_mem) (by k_mem) hdI hvI) (tabD_of (c := cD) N5 (by k_mem) (by k_mem) hdD hvD) ?z1 ?z2 (by omega) hB0 hbb (by omega) (by omega) hBl rfl hc121 (by rw [Nat.mul_comm]; exact hcs1.2.1) (by omega) hcs1.2.2 ?_
      case z1 => show 1 + 300 + 1 + 220 < 1000; decide
      case z2 => show 4 + 3 + 120 < 9900; decide
      intro lp h6 tk6 P6
      rw [hp1.1, hp1.2, hdm.1, hdm.2, show -(U : Int) - 1 = -1 - (U : Int) by omega, show (B : Int) + (-((Lo - 1 : Nat) : Int) - 1) = (B : Int) - (Lo : Int) by omega] at P6
      obtain ⟨tu, tv, F6, N6, _, _⟩ := led_pair F5 N5 P6
      clear F5 N5 P6 hbp hcs hc12 hpgr hBU hp1 hpl1 hbp1 hcs1 hc121 hbb hB0 hBl hdm hpl hcnt hpg
      try dsimp only
      walk_at "m steps"
      refine hold_intro ?_
      rename Fr _ _ _ _ => F5
      rename News _ _ _ _ => N5
      replace N5 := news_sub (news' := [(cD, oD), (cI, oI), (lN, listOf ws.toArray nN), (67, tabObj #[rawInt 52, rawInt 4, .ref cD]), (60, tabObj #[rawInt 37, rawInt 4, .ref cI])]) N5 (fun p hp => .tail _ (.tail _ hp))
      refine wpAny_call ?_
      refine int2_hit (n := 18) W F5.keep (tabI_of (c := cI) N5 (by k_mem) (by k_mem) hdI hvI) ?z1 ?z2 ?z3 hTc (by omega) hTl hT0 (by omega) ?_
      case z1 => show 1 + 300 + 1 + 100 < 1000; decide
      case z2 => decide
      case z3 => decide
      intro lA h6 tk6 _ NLA
      rw [hTd, List.map_take] at NLA
      obtain ⟨wA, nA, F6, N6, hIA, _⟩ := led_list F5 N5 NLA
      clear F5 N5 NLA hTd hTl hTc hT0
      try dsimp only
      walk_at "m steps"
      refine hold_intro ?_
      rename Fr _ _ _ _ => F5
      rename News _ _ _ _ => N5
      refine wpAny_call ?_
      refine int2_hit (n := 18) W F5.keep (tabI_of (c := cI) N5 (by k_mem) (by k_mem) hdI hvI) ?z1 ?z2 ?z3 hUc (by omega) hUl hU0 (by omega) ?_
      case z1 => show 1 + 300 + 1 + 100 < 1000; decide
      case z2 => decide
      case z3 => decide
      intro lB h6 tk6 _ NLB
      rw [hUd, List.map_drop] at NLB
      obtain ⟨wB, nB, F6, N6, hIB, _⟩ := led_list F5 N5 NLB
      clear F5 N5 NLB hUd hUl hUc hU0
      k_with "m cmp" => (refine hold_out ?_)
      try dsimp only
      walk_at "m steps"
      refine hold_intro ?_
      rename Fr _ _ _ _ => F5
      rename News _ _ _ _ => N5
      rename IntsAre _ (List.take _ _) => hIS
      rw [Int.toNat_natCast] at hIS
      refine m_ne_same (N5.isList (by k_mem)) (N5.isList (by k_mem)) hIA hIS rfl ?z1 ?_
      case z1 => show 4 + 3 + 64 < 9900; decide
      replace N5 := news_sub (news' := [(lB, listOf wB.toArray nB), (lA, listOf wA.toArray nA), (cD, oD), (cI, oI), (lN, listOf ws.toArray nN), (67, tabObj #[rawInt 52, rawInt 4, .ref cD]), (60, tabObj #[rawInt 37, rawInt 4, .ref cI])]) N5 (fun p hp => .tail _ hp)
      clear hIS
      try dsimp only
      k_with "m adds" => (refine hold_out ?_)
      k_with "m nes" => (refine hold_out ?_)
      k_with "m eqs" => (refine hold_out ?_)
      k_with "m isn" => (refine hold_out ?_)
      k_with "m is" => (refine hold_out ?_)
      k_with "m slice" => (refine hold_out ?_)
      walk_at "m steps"
      refine hold_intro ?_
      rename Fr _ _ _ _ => F6
      rename News _ _ _ _ => N6
      refine' kmk_slice_ints (ns := ns.map Int.ofNat) F6 N6 ?yl ?yp ?yq hIN ?ym ?yc ?_ ?ys ?yt ?yz
      case yl => exact N6.isList (by k_mem)
      case yp => exact IsPart.int _ _
      case yq => exact IsPart.none
      case ym => exact kmk_from hIN (by omega)
      case yc => exact rfl
      case ys => with_unfolding_all rfl
      case yt => kmk_pure
      case yz => rw [hsz, sizeLine_eq]; omega
      intro D2 ws2 h7 F7 N7 _ hI2 _ _
      rw [Int.toNat_natCast] at hI2
      refine m_ne_same (N7.isList (by k_mem)) (N7.isList (by k_mem)) hIB hI2 rfl ?z1 ?_
      case z1 => show 4 + 3 + 64 < 9900; decide
      replace N7 := news_sub (news' := [(lB, listOf wB.toArray nB), (lA, listOf wA.toArray nA), (cD, oD), (cI, oI), (lN, listOf ws.toArray nN), (67, tabObj #[rawInt 52, rawInt 4, .ref cD]), (60, tabObj #[rawInt 37, rawInt 4, .ref cI])]) N7 (fun p hp => .tail _ hp)
      clear hI2 F6 N6
      try dsimp only
      walk_at "m steps"
      refine hold_intro ?_
      obtain ⟨PA, hPA⟩ : ∃ x, x = ns.take cut := ⟨_, rfl⟩
      obtain ⟨PB, hPB⟩ : ∃ x, x = ns.drop cut := ⟨_, rfl⟩
      have hcat : PA ++ PB = ns := by rw [hPA, hPB, List.take_append_drop]
      rw [← List.map_take, ← hPA] at hIA
      rw [← List.map_drop, ← hPB] at hIB
      have okN : OkL ns := hok
      have okA : OkL PA := by rw [hPA]; exact hokT
      have okB : OkL PB := by rw [hPB]; exact hokD
      have hA1 : 0 < PA.length := by rw [hPA, hlT]; omega
      have hB1 : 0 < PB.length := by rw [hPB, hlD]; omega
      have hA10 : PA.length ≤ 10 := by rw [hPA, hlT]; omega
      have hB10 : PB.length ≤ 10 := by rw [hPB, hlD]; omega
      clear hPA hPB hokT hokD hlT hlD hok
      subst hcat
      have hSN := sentR_len (PA ++ PB) true false
      have hSA := sentR_len PA true false
      have hSB := sentR_len PB true false
      rename Fr _ _ _ _ => F5
      rename News _ _ _ _ => N5
      refine law_text W F5 N5 (tabI_of (c := cI) N5 (by k_mem) (by k_mem) hdI hvI) (by k_mem) hIA okA (by omega) ?_
      intro h8 tk8 t8 F8 N8
      clear F5 N5
      try dsimp only
      walk_at "m steps"
      refine hold_intro ?_
      rename Fr _ _ _ _ => F5
      rename News _ _ _ _ => N5
      refine law_text W F5 N5 (tabI_of (c := cI) N5 (by k_mem) (by k_mem) hdI hvI) (by k_mem) hIB okB (by omega) ?_
      intro h8 tk8 t8 F8 N8
      clear F5 N5
      try dsimp only
      walk_at "m steps"
      refine hold_intro ?_
      rename Fr _ _ _ _ => F5
      rename News _ _ _ _ => N5
      refine law_add ?z1 ?z2 ?_
      case z1 => have := text_len okA; omega
      case z2 => have := text_len okB; omega
      intro t9 tk9
      try dsimp only
      walk_at "m steps"
      refine hold_intro ?_
      rename Fr _ _ _ _ => F5
      rename News _ _ _ _ => N5
      refine law_quote W F5 N5 okN (by omega) ?_
      intro h8 tk8 t8 F8 N8
      clear F5 N5
      try dsimp only
      walk_at "m steps"
      refine hold_intro ?_
      rename Fr _ _ _ _ => F5
      rename News _ _ _ _ => N5
      refine law_sent W F5 N5 (by k_mem) hIN (by omega) ?_
      intro h8 tk8 lDu wDu nDu F8 N8 hIDu
      clear F5 N5
      try dsimp only
      walk_at "m steps"
      refine hold_intro ?_
      rename Fr _ _ _ _ => F5
      rename News _ _ _ _ => N5
      refine law_read W K0 F5 N5 okN (by omega) ?_
      intro h8 tk8 lR wR nR F8 N8 hIR
      clear F5 N5
      try dsimp only
      walk_at "m steps"
      refine hold_intro ?_
      rename Fr _ _ _ _ => F5
      rename News _ _ _ _ => N5
      refine m_ne_same (N5.isList (by k_mem)) (N5.isList (by k_mem)) hIR hIN rfl ?z1 ?_
      case z1 => show 4 + 3 + 64 < 9900; decide
      replace N5 := news_sub (news' := [(lDu, listOf wDu.toArray nDu), (lB, listOf wB.toArray nB), (lA, listOf wA.toArray nA), (cD, oD), (cI, oI), (lN, listOf ws.toArray nN), (67, tabObj #[rawInt 52, rawInt 4, .ref cD]), (60, tabObj #[rawInt 37, rawInt 4, .ref cI])]) N5 (fun p hp => .tail _ hp)
      clear hIR
      try dsimp only
      walk_at "m steps"
      refine hold_intro ?_
      rename Fr _ _ _ _ => F5
      rename News _ _ _ _ => N5
      refine law_read W K0 F5 N5 okN.sent (by omega) ?_
      intro h8 tk8 lR wR nR F8 N8 hIR
      clear F5 N5
      try dsimp only
      walk_at "m steps"
      refine hold_intro ?_
      rename Fr _ _ _ _ => F5
      rename News _ _ _ _ => N5
      refine m_ne_same (N5.isList (by k_mem)) (N5.isList (by k_mem)) hIR hIDu rfl ?z1 ?_
      case z1 => show 4 + 3 + 64 < 9900; decide
      replace N5 := news_sub (news' := [(lDu, listOf wDu.toArray nDu), (lB, listOf wB.toArray nB), (lA, listOf wA.toArray nA), (cD, oD), (cI, oI), (lN, listOf ws.toArray nN), (67, tabObj #[rawInt 52, rawInt 4, .ref cD]), (60, tabObj #[rawInt 37, rawInt 4, .ref cI])]) N5 (fun p hp => .tail _ hp)
      clear hIR
      try dsimp only
      walk_at "m steps"
      refine hold_intro ?_
      rename Fr _ _ _ _ => F5
      rename News _ _ _ _ => N5
      refine law_quote W F5 N5 okA (by omega) ?_
      intro h8 tk8 t8 F8 N8
      clear F5 N5
      try dsimp only
      walk_at "m steps"
      refine hold_intro ?_
      rename Fr _ _ _ _ => F5
      rename News _ _ _ _ => N5
      refine law_quote W F5 N5 okB (by omega) ?_
      intro h8 tk8 t8 F8 N8
      clear F5 N5
      try dsimp only
      walk_at "m steps"
      refine hold_intro ?_
      rename Fr _ _ _ _ => F5
      rename News _ _ _ _ => N5
      refine law_read W K0 F5 N5 okA.sent (by omega) ?_
      intro h8 tk8 lR wR nR F8 N8 hIR
      clear F5 N5
      try dsimp only
      walk_at "m steps"
      refine hold_intro ?_
      rename Fr _ _ _ _ => F5
      rename News _ _ _ _ => N5
      refine law_sent W F5 N5 (by k_mem) hIA (by omega) ?_
      intro h8 tk8 lS wS nS F8 N8 hIS
      clear F5 N5
      try dsimp only
      walk_at "m steps"
      refine hold_intro ?_
      rename Fr _ _ _ _ => F5
      rename News _ _ _ _ => N5
      refine m_ne_same (N5.isList (by k_mem)) (N5.isList (by k_mem)) hIR hIS rfl ?z1 ?_
      case z1 => show 4 + 3 + 64 < 9900; decide
      replace N5 := news_sub (news' := [(lDu, listOf wDu.toArray nDu), (lB, listOf wB.toArray nB), (lA, listOf wA.toArray nA), (cD, oD), (cI, oI), (lN, listOf ws.toArray nN), (67, tabObj #[rawInt 52, rawInt 4, .ref cD]), (60, tabObj #[rawInt 37, rawInt 4, .ref cI])]) N5 (fun p hp => .tail _ (.tail _ hp))
      clear hIR hIS
      try dsimp only
      walk_at "m steps"
      refine hold_intro ?_
      rename Fr _ _ _ _ => F5
      rename News _ _ _ _ => N5
      refine law_read W K0 F5 N5 okB.sent (by omega) ?_
      intro h8 tk8 lR wR nR F8 N8 hIR
      clear F5 N5
      try dsimp only
      walk_at "m steps"
      refine hold_intro ?_
      rename Fr _ _ _ _ => F5
      rename News _ _ _ _ => N5
      refine law_sent W F5 N5 (by k_mem) hIB (by omega) ?_
      intro h8 tk8 lS wS nS F8 N8 hIS
      clear F5 N5
      try dsimp only
      walk_at "m steps"
      refine hold_intro ?_
      rename Fr _ _ _ _ => F5
      rename News _ _ _ _ => N5
      refine m_ne_same (N5.isList (by k_mem)) (N5.isList (by k_mem)) hIR hIS rfl ?z1 ?_
      case z1 => show 4 + 3 + 64 < 9900; decide
      replace N5 := news_sub (news' := [(lDu, listOf wDu.toArray nDu), (lB, listOf wB.toArray nB), (lA, listOf wA.toArray nA), (cD, oD), (cI, oI), (lN, listOf ws.toArray nN), (67, tabObj #[rawInt 52, rawInt 4, .ref cD]), (60, tabObj #[rawInt 37, rawInt 4, .ref cI])]) N5 (fun p hp => .tail _ (.tail _ hp))
      clear hIR hIS
      try dsimp only
      walk_at "m steps"
      refine hold_intro ?_
      rename Fr _ _ _ _ => F5
      rename News _ _ _ _ => N5
      refine law_indent W F5 N5 okN.sent (by omega) hb1 hb4 ?_
      intro h8 tk8 t8 F8 N8
      clear F5 N5
      try dsimp only
      walk_at "m steps"
      refine hold_intro ?_
      rename Fr _ _ _ _ => F5
      rename News _ _ _ _ => N5
      refine law_setin W F5 N5 (by k_mem) hIDu (by omega) hb1 hb4 ?_
      intro h8 tk8 lS wS nS F8 N8 hIS
      clear F5 N5
      try dsimp only
      walk_at "m steps"
      have hL1 := seN_len hb4 (sentR true false (PA ++ PB)) true
      have hL2 := seN_len hb4 (PA ++ PB) true
      have hL3 := sentR_len (seN bl true (PA ++ PB)) true false
      refine hold_intro ?_
      rename Fr _ _ _ _ => F5
      rename News _ _ _ _ => N5
      refine law_text W F5 N5 (tabI_of (c := cI) N5 (by k_mem) (by k_mem) hdI hvI) (by k_mem) hIS okN.sent.setIn (by omega) ?_
      intro h8 tk8 t8 F8 N8
      clear F5 N5
      try dsimp only
      walk_at "m steps"
      refine hold_intro ?_
      rename Fr _ _ _ _ => F5
      rename News _ _ _ _ => N5
      refine law_ne_str ?_
      replace N5 := news_sub (news' := [(lDu, listOf wDu.toArray nDu), (lB, listOf wB.toArray nB), (lA, listOf wA.toArray nA), (cD, oD), (cI, oI), (lN, listOf ws.toArray nN), (67, tabObj #[rawInt 52, rawInt 4, .ref cD]), (60, tabObj #[rawInt 37, rawInt 4, .ref cI])]) N5 (fun p hp => .tail _ hp)
      clear hIS
      try dsimp only
      walk_at "m steps"
      refine hold_intro ?_
      rename Fr _ _ _ _ => F5
      rename News _ _ _ _ => N5
      refine law_indent W F5 N5 okN (by omega) hb1 hb4 ?_
      intro h8 tk8 t8 F8 N8
      clear F5 N5
      try dsimp only
      walk_at "m steps"
      refine hold_intro ?_
      rename Fr _ _ _ _ => F5
      rename News _ _ _ _ => N5
      refine law_quote W F5 N5 okN.setIn (by omega) ?_
      intro h8 tk8 t8 F8 N8
      clear F5 N5
      try dsimp only
      walk_at "m steps"
      refine hold_intro ?_
      rename Fr _ _ _ _ => F5
      rename News _ _ _ _ => N5
      refine law_read W K0 F5 N5 okN.setIn.sent (by omega) ?_
      intro h8 tk8 lR wR nR F8 N8 hIR
      clear F5 N5
      try dsimp only
      walk_at "m steps"
      refine hold_intro ?_
      rename Fr _ _ _ _ => F5
      rename News _ _ _ _ => N5
      refine law_setin W F5 N5 (by k_mem) hIN (by omega) hb1 hb4 ?_
      intro h8 tk8 lS wS nS F8 N8 hIS
      clear F5 N5
      try dsimp only
      walk_at "m steps"
      refine hold_intro ?_
      rename Fr _ _ _ _ => F5
      rename News _ _ _ _ => N5
      refine law_sent W F5 N5 (by k_mem) hIS (by omega) ?_
      intro h8 tk8 lV wV nV F8 N8 hIV
      clear F5 N5
      try dsimp only
      walk_at "m steps"
      refine hold_intro ?_
      rename Fr _ _ _ _ => F5
      rename News _ _ _ _ => N5
      refine m_ne_same (N5.isList (by k_mem)) (N5.isList (by k_mem)) hIR hIV rfl ?z1 ?_
      case z1 => show 4 + 3 + 64 < 9900; decide
      replace N5 := news_sub (news' := [(lDu, listOf wDu.toArray nDu), (lB, listOf wB.toArray nB), (lA, listOf wA.toArray nA), (cD, oD), (cI, oI), (lN, listOf ws.toArray nN), (67, tabObj #[rawInt 52, rawInt 4, .ref cD]), (60, tabObj #[rawInt 37, rawInt 4, .ref cI])]) N5 (fun p hp => .tail _ (.tail _ (.tail _ hp)))
      clear hIR hIS hIV
      try dsimp only
      walk_at "m steps"
      refine hold_intro ?_
      rename Fr _ _ _ _ => F5
      rename News _ _ _ _ => N5
      have hL4 := seN_len hb4 (sentR true false PA) true
      have hL5 := seN_len hb4 (sentR true false PB) true
      have hL6 := seN_len hb4 PA true
      have hL7 := seN_len hb4 PB true
      clear hL1 hL2 hL3 okN
      obtain ⟨Fq, lq, rfl⟩ : ∃ F l, PA = F ++ [l] := by
        refine ⟨PA.dropLast, PA.getLast (fun q => by rw [q] at hA1; cases hA1), ?_⟩
        rw [List.dropLast_concat_getLast]
      obtain ⟨bq, Bq, rfl⟩ : ∃ b B, PB = b :: B := by
        cases PB with
        | nil => cases hB1
        | cons b B => exact ⟨b, B, rfl⟩
      refine mod_int (by decide) ?_
      rw [show ∀ k : Nat, k = Fq.length → ((Fq ++ [lq]).map Int.ofNat).getD k 0 = ((lq : Nat) : Int) from fun k hk => by subst hk; simp, fmod_mod]
      · try dsimp only
        walk_at "m steps"
        · rename ((lq % 64 : Nat) : Int) = 10 => hq1
          have hd1 : lq % 64 = 10 := Int.ofNat.inj hq1
          refine hold_intro ?_
          rename Fr _ _ _ _ => F5
          rename News _ _ _ _ => N5
          rw [clo_a (b := bq) hd1] at F5
          refine law_indent W F5 N5 okA.sent (by omega) hb1 hb4 ?_
          intro h8 tk8 t8 F8 N8
          clear F5 N5
          try dsimp only
          walk_at "m steps"
          refine hold_intro ?_
          rename Fr _ _ _ _ => F5
          rename News _ _ _ _ => N5
          refine law_indent W F5 N5 okB.sent (by omega) hb1 hb4 ?_
          intro h8 tk8 t8 F8 N8
          clear F5 N5
          try dsimp only
          walk_at "m steps"
          refine hold_intro ?_
          refine law_add ?z1 ?z2 ?_
          case z1 => have := text_len (okA.sent.setIn (k := bl)); omega
          case z2 => have := text_len (okB.sent.setIn (k := bl)); omega
          intro t9 tk9
          try dsimp only
          walk_at "m steps"
          refine hold_intro ?_
          refine law_eq_str ?_
          rw [eqC1 hb1]
          try dsimp only
          walk_at "m steps"
          refine hold_intro ?_
          refine m_isnot_same ?_
          try dsimp only
          walk_at "m steps"
          refine hold_intro ?_
          rename Fr _ _ _ _ => F5
          rename News _ _ _ _ => N5
          refine law_indent W F5 N5 okA (by omega) hb1 hb4 ?_
          intro h8 tk8 t8 F8 N8
          clear F5 N5
          try dsimp only
          walk_at "m steps"
          refine hold_intro ?_
          rename Fr _ _ _ _ => F5
          rename News _ _ _ _ => N5
          refine law_indent W F5 N5 okB (by omega) hb1 hb4 ?_
          intro h8 tk8 t8 F8 N8
          clear F5 N5
          try dsimp only
          walk_at "m steps"
          refine hold_intro ?_
          refine law_add ?z1 ?z2 ?_
          case z1 => have := text_len (okA.setIn (k := bl)); omega
          case z2 => have := text_len (okB.setIn (k := bl)); omega
          intro t9 tk9
          try dsimp only
          walk_at "m steps"
          refine hold_intro ?_
          refine law_eq_str ?_
          rw [eqC2 hb1]
          try dsimp only
          walk_at "m steps"
          · rename ((lq % 64 : Nat) : Int) = 10 => hq9
            refine hold_intro ?_
            refine PyProof.Rows.is_bool ?_
            rw [fin_a (Int.ofNat.inj hq9)]
            rename Fr _ _ _ _ => F5
            rename News _ _ _ _ => N5
            exact ⟨rfl, _, _, _, #[rawInt 52, rawInt 4, .ref cD], #[rawInt 37, rawInt 4, .ref cI], rfl, F5, news_sub N5 (fun p hp => by
              simp only [List.mem_cons, List.not_mem_nil, or_false] at hp
              rcases hp with rfl | rfl
              · k_mem
              · k_mem)⟩
          · rename ((lq % 64 : Nat) : Int) ≠ 10 => hq9
            refine hold_intro ?_
            refine PyProof.Rows.is_bool ?_
            rw [fin_b (fun q => hq9 (congrArg Int.ofNat q))]
            rename Fr _ _ _ _ => F5
            rename News _ _ _ _ => N5
            exact ⟨rfl, _, _, _, #[rawInt 52, rawInt 4, .ref cD], #[rawInt 37, rawInt 4, .ref cI], rfl, F5, news_sub N5 (fun p hp => by
              simp only [List.mem_cons, List.not_mem_nil, or_false] at hp
              rcases hp with rfl | rfl
              · k_mem
              · k_mem)⟩
        · rename ((lq % 64 : Nat) : Int) = 13 => hq2
          rename ((lq % 64 : Nat) : Int) ≠ 10 => hq1
          have hd2 : lq % 64 = 13 := Int.ofNat.inj hq2
          have hd1 : lq % 64 ≠ 10 := fun q => hq1 (congrArg Int.ofNat q)
          refine hold_intro ?_
          rename Fr _ _ _ _ => F5
          rename News _ _ _ _ => N5
          rw [clo_b hd2] at F5
          refine law_indent W F5 N5 okA.sent (by omega) hb1 hb4 ?_
          intro h8 tk8 t8 F8 N8
          clear F5 N5
          try dsimp only
          walk_at "m steps"
          refine hold_intro ?_
          rename Fr _ _ _ _ => F5
          rename News _ _ _ _ => N5
          refine law_indent W F5 N5 okB.sent (by omega) hb1 hb4 ?_
          intro h8 tk8 t8 F8 N8
          clear F5 N5
          try dsimp only
          walk_at "m steps"
          refine hold_intro ?_
          refine law_add ?z1 ?z2 ?_
          case z1 => have := text_len (okA.sent.setIn (k := bl)); omega
          case z2 => have := text_len (okB.sent.setIn (k := bl)); omega
          intro t9 tk9
          try dsimp only
          walk_at "m steps"
          refine hold_intro ?_
          refine law_eq_str ?_
          rw [eqC1 hb1]
          try dsimp only
          walk_at "m steps"
          refine hold_intro ?_
          refine m_isnot_same ?_
          try dsimp only
          walk_at "m steps"
          refine hold_intro ?_
          rename Fr _ _ _ _ => F5
          rename News _ _ _ _ => N5
          refine law_indent W F5 N5 okA (by omega) hb1 hb4 ?_
          intro h8 tk8 t8 F8 N8
          clear F5 N5
          try dsimp only
          walk_at "m steps"
          refine hold_intro ?_
          rename Fr _ _ _ _ => F5
          rename News _ _ _ _ => N5
          refine law_indent W F5 N5 okB (by omega) hb1 hb4 ?_
          intro h8 tk8 t8 F8 N8
          clear F5 N5
          try dsimp only
          walk_at "m steps"
          refine hold_intro ?_
          refine law_add ?z1 ?z2 ?_
          case z1 => have := text_len (okA.setIn (k := bl)); omega
          case z2 => have := text_len (okB.setIn (k := bl)); omega
          intro t9 tk9
          try dsimp only
          walk_at "m steps"
          refine hold_intro ?_
          refine law_eq_str ?_
          rw [eqC2 hb1]
          try dsimp only
          walk_at "m steps"
          · rename ((lq % 64 : Nat) : Int) = 10 => hq9
            refine hold_intro ?_
            refine PyProof.Rows.is_bool ?_
            rw [fin_a (Int.ofNat.inj hq9)]
            rename Fr _ _ _ _ => F5
            rename News _ _ _ _ => N5
            exact ⟨rfl, _, _, _, #[rawInt 52, rawInt 4, .ref cD], #[rawInt 37, rawInt 4, .ref cI], rfl, F5, news_sub N5 (fun p hp => by
              simp only [List.mem_cons, List.not_mem_nil, or_false] at hp
              rcases hp with rfl | rfl
              · k_mem
              · k_mem)⟩
          · rename ((lq % 64 : Nat) : Int) ≠ 10 => hq9
            refine hold_intro ?_
            refine PyProof.Rows.is_bool ?_
            rw [fin_b (fun q => hq9 (congrArg Int.ofNat q))]
            rename Fr _ _ _ _ => F5
            rename News _ _ _ _ => N5
            exact ⟨rfl, _, _, _, #[rawInt 52, rawInt 4, .ref cD], #[rawInt 37, rawInt 4, .ref cI], rfl, F5, news_sub N5 (fun p hp => by
              simp only [List.mem_cons, List.not_mem_nil, or_false] at hp
              rcases hp with rfl | rfl
              · k_mem
              · k_mem)⟩
        · rename ((lq % 64 : Nat) : Int) ≠ 13 => hq2
          rename ((lq % 64 : Nat) : Int) ≠ 10 => hq1
          have hd2 : lq % 64 ≠ 13 := fun q => hq2 (congrArg Int.ofNat q)
          have hd1 : lq % 64 ≠ 10 := fun q => hq1 (congrArg Int.ofNat q)
          refine hold_intro ?_
          rename Fr _ _ _ _ => F5
          rename News _ _ _ _ => N5
          rw [clo_c (b := bq) hd1 hd2] at F5
          refine law_indent W F5 N5 okA.sent (by omega) hb1 hb4 ?_
          intro h8 tk8 t8 F8 N8
          clear F5 N5
          try dsimp only
          walk_at "m steps"
          refine hold_intro ?_
          rename Fr _ _ _ _ => F5
          rename News _ _ _ _ => N5
          refine law_indent W F5 N5 okB.sent (by omega) hb1 hb4 ?_
          intro h8 tk8 t8 F8 N8
          clear F5 N5
          try dsimp only
          walk_at "m steps"
          refine hold_intro ?_
          refine law_add ?z1 ?z2 ?_
          case z1 => have := text_len (okA.sent.setIn (k := bl)); omega
          case z2 => have := text_len (okB.sent.setIn (k := bl)); omega
          intro t9 tk9
          try dsimp only
          walk_at "m steps"
          refine hold_intro ?_
          refine law_eq_str ?_
          rw [eqC1 hb1]
          try dsimp only
          walk_at "m steps"
          refine hold_intro ?_
          refine m_isnot_same ?_
          try dsimp only
          walk_at "m steps"
          refine hold_intro ?_
          rename Fr _ _ _ _ => F5
          rename News _ _ _ _ => N5
          refine law_indent W F5 N5 okA (by omega) hb1 hb4 ?_
          intro h8 tk8 t8 F8 N8
          clear F5 N5
          try dsimp only
          walk_at "m steps"
          refine hold_intro ?_
          rename Fr _ _ _ _ => F5
          rename News _ _ _ _ => N5
          refine law_indent W F5 N5 okB (by omega) hb1 hb4 ?_
          intro h8 tk8 t8 F8 N8
          clear F5 N5
          try dsimp only
          walk_at "m steps"
          refine hold_intro ?_
          refine law_add ?z1 ?z2 ?_
          case z1 => have := text_len (okA.setIn (k := bl)); omega
          case z2 => have := text_len (okB.setIn (k := bl)); omega
          intro t9 tk9
          try dsimp only
          walk_at "m steps"
          refine hold_intro ?_
          refine law_eq_str ?_
          rw [eqC2 hb1]
          try dsimp only
          walk_at "m steps"
          · rename ((lq % 64 : Nat) : Int) = 10 => hq9
            refine hold_intro ?_
            refine PyProof.Rows.is_bool ?_
            rw [fin_a (Int.ofNat.inj hq9)]
            rename Fr _ _ _ _ => F5
            rename News _ _ _ _ => N5
            exact ⟨rfl, _, _, _, #[rawInt 52, rawInt 4, .ref cD], #[rawInt 37, rawInt 4, .ref cI], rfl, F5, news_sub N5 (fun p hp => by
              simp only [List.mem_cons, List.not_mem_nil, or_false] at hp
              rcases hp with rfl | rfl
              · k_mem
              · k_mem)⟩
          · rename ((lq % 64 : Nat) : Int) ≠ 10 => hq9
            refine hold_intro ?_
            refine PyProof.Rows.is_bool ?_
            rw [fin_b (fun q => hq9 (congrArg Int.ofNat q))]
            rename Fr _ _ _ _ => F5
            rename News _ _ _ _ => N5
            exact ⟨rfl, _, _, _, #[rawInt 52, rawInt 4, .ref cD], #[rawInt 37, rawInt 4, .ref cI], rfl, F5, news_sub N5 (fun p hp => by
              simp only [List.mem_cons, List.not_mem_nil, or_false] at hp
              rcases hp with rfl | rfl
              · k_mem
              · k_mem)⟩
      · simp
        omega)

end
end Mine
set_option maxRecDepth 100000 in
set_option maxHeartbeats 8000000 in
theorem PySem.Challenge.cw_ty0019_01_holds : PySem.Challenge.rw_ty0019_01.Holds := by
  exact Mine.law_holds
