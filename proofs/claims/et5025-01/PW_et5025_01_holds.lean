import PyProof.Rows.All
import Wide.All
import OpenK.AllK
import Wide.FinOn
import PySem.Challenge.RW_et5025_01
open PySem PySem.W PyProof.Rows
set_option Elab.async false
set_option maxRecDepth 100000
set_option maxHeartbeats 0
set_option rowWalk.seconds 0
namespace Mine
open_top hd for PySem.Challenge.rw_et5025_01
theorem modeHd : True := by
  w_top off
  trivial
end Mine
namespace Mine
abbrev P1 : Program := PySem.Challenge.rw_et5025_01.row.prog
noncomputable abbrev V1 : Program := hd.view_39
noncomputable abbrev L1 : List Str := looseW hd.view_39 [Str.ofString "STARTSWITH_TOP_LEVEL_REGEX"]
abbrev AA (d u : Nat) (outer : List Env) : Around := { depth := d, frames := some outer, guards := some [], units := u }
/-- the draws' state: the script's ints, the place, the last number -/
abbrev stO (sc : Addr) (i : Int) (ti : Nat) (a : Int) (ta n : Nat) : Obj := listOf #[.ref sc, .int i ti, .int a ta] n
theorem news_sub {h₀ h : Heap} {L : Addr} {l l' : List (Addr × Obj)} (N : News h₀ L h l) (hs : ∀ p ∈ l', p ∈ l) : News h₀ L h l' := fun p hp => N p (hs p hp)
theorem news_fun {h₀ h : Heap} {L : Addr} {l : List (Addr × Obj)} (N : News h₀ L h l) {a : Addr} {o o' : Obj} (h1 : (a, o) ∈ l) (h2 : (a, o') ∈ l) : o = o' := by
  have e1 := (N _ h1).1
  have e2 := (N _ h2).1
  exact Option.some.inj (e1.symm.trans e2)
theorem fmod_lo (x : Int) {b : Int} (hb : 0 < b) : 0 ≤ x.fmod b := by
  rw [Int.fmod_eq_emod_of_nonneg _ (Int.le_of_lt hb)]; exact Int.emod_nonneg _ (Int.ne_of_gt hb)
theorem fmod_hi (x : Int) {b : Int} (hb : 0 < b) : x.fmod b < b := by
  rw [Int.fmod_eq_emod_of_nonneg _ (Int.le_of_lt hb)]; exact Int.emod_lt_of_pos _ hb
end Mine
namespace Mine
theorem modeN1 : True := by
  w_top off
  trivial
theorem fill (w : World) (h : Heap) : (hd.heap_39 w.params).In h → PySem.Challenge.rw_et5025_01 = PySem.Challenge.rw_et5025_01 := by
  k_fill
  exact fun _ => rfl
local macro_rules | `(tactic| k_all) => `(tactic| assumption)
theorem next_spec {w : World} {A₀ : Around} {base h₀ : Heap} {outer : List Env} {env : Env} {d u : Nat} {mean : ExcName → Option Value} {mg mb : Str → Option Value}
    {s : Shared} {L : Addr} {m : Str → Option Value} {Q : Value → Shared → Prop} {E : Value → Shared → Prop} {news : List (Addr × Obj)} {g : Obj → List (Addr × Obj)}
    {st sc : Addr} {i a many : Int} {ti ta tm n nn : Nat} {vs : List Value} {ns : List Int}
    (B : Below A₀ base outer h₀) (F : Fr h₀ L s.heap m) (X : (hd.heap_39 w.params).In h₀) (T : Top V1 L1 mean mg mb h₀) (N : News h₀ L s.heap news)
    (hf : env.frame = some L) (hke : env.scope.kind = .function) (hd : d ≤ 500)
    (U : UpdF st (stO sc i ti a ta n) news g) (hsc : (sc, listOf vs.toArray nn) ∈ news)
    (hI : IntsAre vs ns) (hlen : ns.length ≤ 63) (hi : 0 ≤ i) (ha : 0 ≤ a) (ha2 : a < 2147483647) (hm : 0 < many)
    (h : ∀ v tv i' ti' a' ta' h' tk, 0 ≤ v → v < many → 0 ≤ i' → 0 ≤ a' → a' < 2147483647 → Fr h₀ L h' m →
      News h₀ L h' (g (stO sc i' ti' a' ta' n)) → Q (.int v tv) { s with heap := h', toks := tk }) :
    wpAny (model P1 w) (AA d u (env :: outer)) (call (.ref 57) [.ref st, .int many tm] []) Q E s := by
  obtain ⟨pre, post, hnews, hg, o1, o2⟩ := U.split
  subst hnews
  have hst : @Ne Nat st sc := by
    intro e
    subst e
    have e := news_fun N hsc (List.mem_append_right _ (.head _))
    cases hI with
    | nil => cases e
    | cons i' t' hr => cases e
  have hscr : (sc, listOf vs.toArray nn) ∈ pre ++ post := by
    rcases List.mem_append.mp hsc with q | q
    · exact List.mem_append_left _ q
    · rcases List.mem_cons.mp q with q | q
      · exact absurd (congrArg Prod.fst q).symm hst
      · exact List.mem_append_right _ q
  have hoff : ∀ p ∈ pre ++ post, p.1 ≠ st := fun p hp => (List.mem_append.mp hp).elim (o1 p) (o2 p)
  replace N : News h₀ L s.heap ((st, listOf #[.ref sc, .int i ti, .int a ta] n) :: (sc, listOf vs.toArray nn) :: (pre ++ post)) := news_sub N fun p hp => by
    rcases List.mem_cons.mp hp with rfl | hp
    · exact List.mem_append_right _ (.head _)
    · rcases List.mem_cons.mp hp with rfl | hp
      · exact hsc
      · exact (List.mem_append.mp hp).elim (List.mem_append_left _) fun q => List.mem_append_right _ (.tail _ q)
  have hback : ∀ o', ∀ p ∈ g o', p ∈ (st, o') :: (sc, listOf vs.toArray nn) :: (pre ++ post) := fun o' p hp => by
    rw [hg] at hp
    rcases List.mem_append.mp hp with q | q
    · exact .tail _ (.tail _ (List.mem_append_left _ q))
    · rcases List.mem_cons.mp q with q | q
      · rw [q]; exact .head _
      · exact .tail _ (.tail _ (List.mem_append_right _ q))
  generalize pre ++ post = rest at *
  clear hg U hsc o1 o2
  have hroom : (AA d u (env :: outer)).depth < recursionLimit := by show d < 1000; omega
  refine wpAny_call ?_
  refine' code_def ?k1 ?k2 ?k3 ?k4 ?k5 ?kA ?kF ?kK ?k6 ?k7 ?k8 ?k9 ?kB ?_ ?c2 ?c3 ?c4 ?c5
  (case kA => exact rfl); (case kF => exact hf); (case kK => exact hke); (case k1 => exact B); (case k2 => exact F); (case k3 => exact X); (case k4 => exact N); (case k5 => exact T); (case k6 => k_is); (case k7 => k_is); (case k8 => exact hroom)
  case k9 => exact BindsTo.of_eq rfl
  case c5 => decide
  case kB => exact locs rfl
  (case c2 => exact rfl); (case c3 => exact rfl); (case c4 => exact rfl)
  intro g' L' h' FG' F' N' B' X' T'
  (try dsimp only)
  (try k_lift B')
  (try k_fold)
  k_steps
  all_goals refine h _ _ _ _ _ _ _ _ ?_ ?_ ?_ ?_ ?_ (by assumption) (news_sub (by assumption) (hback _))
  all_goals first | exact fmod_lo _ hm | exact fmod_hi _ hm | exact fmod_lo _ (by decide) | exact fmod_hi _ (by decide) | omega
end Mine
namespace Mine
theorem rePlainAttrs : PlainAttrs "re.Pattern" :=
  ⟨⟨"object.__getattribute__", by rw [typeLookup_type, builtinLookup_eq_fast]; kernel_rfl, by decide +kernel⟩, by rw [typeLookup_type, builtinLookup_eq_fast]; kernel_rfl⟩
theorem reOwner : Manifest.owners.lookup (String.ofList ['n', 'r', 'e', 't', 't', 'a', 'P', '.', 'e', 'r'].reverse) = some Manifest.sig_re_Pattern := by kernel_rfl
theorem reSlot : Slot "re.Pattern" "match" "re.Pattern.match" :=
  .of (owner := "re.Pattern") (n := "match") (by rw [typeLookup_type, builtinLookup_eq_fast]; kernel_rfl) (by decide +kernel) (by decide +kernel) (by decide +kernel)
    (by first | exact .inl (by decide +kernel) | exact .inr (by decide +kernel)) (by rw [isSubtype_type]; kernel_rfl)
theorem reType : typeOf (.builtin "re.Pattern.match") = pure (.type "method_descriptor") := by show builtinType _ = _; rw [builtinType_eq_fast]; kernel_rfl
theorem reEntry : entryFor table "re.Pattern.match" = some Builtin.«re.Pattern.match» := entryFor_of_tree (by kernel_rfl)
theorem reArgs (a b : Value) : argsOk "re.Pattern.match" ⟨[a, b], []⟩ := by
  unfold argsOk; rw [signature?_of (id := "re.Pattern.match") (n := ['h', 'c', 't', 'a', 'm']) (o := ['n', 'r', 'e', 't', 't', 'a', 'P', '.', 'e', 'r']) (by kernel_rfl) reOwner]; kernel_rfl
theorem matchNoBool : typeLookup (.type "re.Match") "__bool__" = pure none := by rw [typeLookup_type, builtinLookup_eq_fast]; kernel_rfl
theorem matchNoLen : typeLookup (.type "re.Match") "__len__" = pure none := by rw [typeLookup_type, builtinLookup_eq_fast]; kernel_rfl

/-- the pattern's code -/
def codeV : Array Nat := #[14, 4, 0, 1, 4294967295, 6, 0, 17, 0, 7, 39, 16, 97, 16, 115, 16, 121, 16, 110, 16, 99, 24, 9, 1, 4294967295, 13, 4, 8, 12, 0, 1, 16, 100, 16, 101, 16, 102, 24, 9, 1, 4294967295, 13, 4, 8, 12, 0, 1, 15, 49, 19, 16, 100, 16, 101, 16, 102, 24, 9, 1, 4294967295, 13, 4, 8, 12, 0, 1, 15, 30, 23, 16, 99, 16, 108, 16, 97, 16, 115, 16, 115, 24, 9, 1, 4294967295, 13, 4, 8, 12, 0, 1, 15, 7, 5, 16, 64, 15, 2, 0, 17, 1, 1]
def reEnd : Nat → Sre.M → Option Sre.M
  | 0, _ => none
  | n + 1, m => if (m.runFor 4).outcome.isSome then some (m.runFor 4) else reEnd n (m.runFor 4)
def badSpan (m : Sre.M) : Bool := (List.range 1).any (fun g => match m.marks.getD (2 * g) none, m.marks.getD (2 * g + 1) none with | some b, some e => ((2 * g + 1 : Nat) : Int) ≤ m.lastmark && e < b | _, _ => false)
def reOk (x : Str) (b : Bool) : Bool := match reEnd 60 (Sre.forMatch codeV x.cps 1 (min (0 : Int).toNat x.cps.size) (min ((2 : Int) ^ 63 - 1).toNat x.cps.size) false false) with
  | some m => (match m.outcome with
    | some .matched => b && !badSpan m
    | some .failed => !b
    | _ => false)
  | none => false

section
variable {M : Model} {A : Around} {E : Value → Shared → Prop} {s : Shared}
theorem reDrive_run {Q : Sre.M → Shared → Prop} : ∀ (n N : Nat) (m m' : Sre.M), reEnd n m = some m' → n ≤ N → Q m' s → wpAny M A (Builtin.Re.reDrive N m) Q E s
  | 0, _, _, _, h, _, _ => by cases h
  | n + 1, 0, _, _, _, hN, _ => absurd hN (Nat.not_succ_le_zero _)
  | n + 1, N + 1, m, m', h, hN, q => by
    unfold Builtin.Re.reDrive
    unfold reEnd at h
    show wpAny M A (if (m.runFor 4).outcome.isSome = true then pure (m.runFor 4) else (rule "sre.turn" >>= fun _ => Builtin.Re.reDrive N (m.runFor 4))) Q E s
    by_cases c : (m.runFor 4).outcome.isSome = true
    · rw [if_pos c] at h ⊢
      cases h
      exact wpAny_pure q
    · rw [if_neg c] at h ⊢
      exact wpAny_bind (wpAny_rule (reDrive_run n N _ _ h (Nat.le_of_succ_le_succ hN) q))
theorem forIn_quiet {α : Type} {f : α → PUnit → Sem (ForInStep PUnit)} {Q : PUnit → Shared → Prop} (hf : ∀ (a : α) (Q' : ForInStep PUnit → Shared → Prop), Q' (.yield ⟨⟩) s → wpAny M A (f a ⟨⟩) Q' E s) (q : Q ⟨⟩ s) :
    ∀ l : List α, wpAny M A (forIn l PUnit.unit f) Q E s
  | [] => by rw [List.forIn_nil]; exact wpAny_pure q
  | a :: l => by
    rw [List.forIn_cons]
    exact wpAny_bind (hf a _ (forIn_quiet hf q l))
theorem reRun_ok {m m' : Sre.M} {Q : Option Sre.M → Shared → Prop} (h : reEnd 60 m = some m')
    (q : wpAny M A (match m'.outcome with
      | some .matched => pure (some m')
      | some .failed => pure none
      | some (.stuck why) => unsupported s!"_sre:{why}"
      | none => unsupported "internal:sre:no-outcome" : Sem (Option Sre.M)) Q E s) : wpAny M A (Builtin.Re.reRunToEnd m) Q E s := by
  unfold Builtin.Re.reRunToEnd
  refine wpAny_bind (reDrive_run 60 (2 ^ 64) m m' h (by decide) ?_)
  refine wpAny_bind (forIn_quiet (fun a Q' q' => ?_) ?_ _)
  · split
    · exact wpAny_bind (wpAny_rule (wpAny_pure q'))
    · exact wpAny_pure q'
  · exact q
end
abbrev patO : Obj := { cls := .type "re.Pattern", data := .fields #[Value.str (Str.ofString "^(async\\s+def\\s+|def\\s+|class\\s+|@)") 285, Value.int 32 388, Value.int 1 0, Value.none, Value.none, Value.ref 35, Value.int 0 0] }
def codeItems : List Value := codeV.toList.map fun (n : Nat) => Value.int (n : Int) 0
abbrev codeO : Obj := { cls := .type "tuple", data := .seq codeItems.toArray }
theorem flat1 {β : Type} (F : Nat → List β) (h : ∀ g, (F g).length = 2) : ((List.range 1).flatMap F).length = 2 := by
  show (F 0 ++ []).length = 2
  rw [List.append_nil, h]
theorem codeBack : (codeItems.toArray.map Builtin.Re.reRawOf).map (·.toNat) = codeV := by decide +kernel
theorem pat_in (P : Params) : (hd.heap_39 P).lookup 36 = some patO := by rfl
theorem code_in (P : Params) : (hd.heap_39 P).lookup 35 = some codeO := by rfl
section
variable {w : World} {A : Around} {E : Value → Shared → Prop} {s : Shared} {h₀ : Heap} {L : Addr} {m : Str → Option Value} {news : List (Addr × Obj)}
theorem match_call {x : Str} {t : Tok} {b : Bool} {Q : Value → Shared → Prop} (F : Fr h₀ L s.heap m) (N : News h₀ L s.heap news) (X : (hd.heap_39 w.params).In h₀) (hx : reOk x b = true)
    (hno : b = false → Q .none s) (hyes : b = true → ∀ a o h' tk, o.cls = .type "re.Match" → o.dict = none → Fr h₀ L h' m → News h₀ L h' ((a, o) :: news) → Q (.ref a) { s with heap := h', toks := tk }) :
    wpAny (model P1 w) A (call (.builtin "re.Pattern.match") [.ref 36, .str x t]) Q E s := by
  have Xs := X.keeps F.keep
  have hp : s.heap.get? 36 = some patO := Xs _ _ (pat_in _)
  have hc : s.heap.get? 35 = some codeO := Xs _ _ (code_in _)
  refine wpAny_call_entry reSlot ⟨_, hp, rfl⟩ reEntry ?_ (reArgs _ _)
  unfold Builtin.«re.Pattern.match»
  refine wpAny_bind ?_
  unfold Builtin.Re.reTarget
  refine wpAny_bind (wpAny_of_eq (a := [some (Value.str x t), none, none]) (by rfl) ?_)
  refine wpAny_bind (wpAny_pure (wpAny_bind (wpAny_pure ?_)))
  refine wpAny_bind (wpAny_bind (wpAny_load hp (wpAny_pure ?_)))
  refine wpAny_bind (wpAny_of_eq (a := (x.cps, 0)) (by rfl) ?_)
  unfold reOk at hx
  generalize hB : ((2 : Int) ^ 63 - 1) = BIG at hx ⊢
  dsimp only
  rw [if_neg (by decide), if_neg (by decide)]
  refine wpAny_bind (m := Builtin.Re.reNoCollectionInside (.str x t) 0) (wpAny_of_eq (a := ()) (by rfl) ?_)
  refine wpAny_bind (wpAny_bind (wpAny_bind (wpAny_load hc (wpAny_pure (wpAny_pure (wpAny_pure ?_))))))
  rw [show Array.map (fun x => x.toNat) (Array.map Builtin.Re.reRawOf ((some codeItems.toArray).getD #[])) = codeV from codeBack]
  rw [show Builtin.Re.reRawNat (#[Value.str (Str.ofString "^(async\\s+def\\s+|def\\s+|class\\s+|@)") 285, Value.int 32 388, Value.int 1 0, Value.none, Value.none, Value.ref 35, Value.int 0 0].getD 2 Value.none) = 1 from rfl]
  dsimp only
  generalize min (Int.toNat 0) x.cps.size = PP at hx ⊢
  generalize min BIG.toNat x.cps.size = LM at hx ⊢
  generalize hm : Sre.forMatch codeV x.cps 1 PP LM false false = m0 at hx ⊢
  generalize hr : reEnd 60 m0 = r at hx
  cases r with
  | none => cases hx
  | some m' =>
    refine wpAny_bind (reRun_ok hr ?_)
    dsimp only at hx
    generalize ho : m'.outcome = oc at hx ⊢
    cases oc with
    | none => cases hx
    | some q =>
      cases q with
      | matched =>
        simp only [Bool.and_eq_true, Bool.not_eq_true'] at hx
        refine wpAny_pure ?_
        refine wpAny_bind (m := Builtin.Re.reNewMatch (.ref 36) (.str x t) 1 PP LM m') ?_
        unfold Builtin.Re.reNewMatch
        dsimp only
        split
        · rename_i q
          exact absurd (show badSpan m' = true from q) (by rw [hx.2]; decide)
        refine wpAny_bind (m := newTuple _) (wpAny_newObj_type ?_ ?_)
        · refine wpAny_newObj_type ?_ (by size_fits)
          have F1 := (F.push { cls := .type "tuple", data := .seq (rawInt m'.start :: rawInt m'.handed :: List.flatMap (fun g => match if ((2 * g + 1 : Nat) : Int) ≤ m'.lastmark then (m'.marks.getD (2 * g) none, m'.marks.getD (2 * g + 1) none) else (none, none) with | (some b, some e) => [rawInt b, rawInt e] | _ => [rawInt (-1), rawInt (-1)]) (List.range 1)).toArray })
          refine wpAny_pure ⟨_, rfl, ?_⟩
          refine hyes hx.1 _ _ _ s.toks rfl rfl (F1.push _) (News.push F1 (N.grown fun b o e => Heap.get?_push_of_some _ e) _)
        · show (_ :: _ :: _).toArray.size ≤ sizeLine
          rw [List.size_toArray, List.length_cons, List.length_cons, flat1 _ (fun g => by split <;> rfl)]
          decide
      | failed =>
        simp only [Bool.not_eq_true'] at hx
        exact wpAny_pure (wpAny_pure ⟨_, rfl, hno hx⟩)
      | stuck y => cases hx
theorem getMethod_pat {pl : Sem Bool} {Q : Value × List Value → Shared → Prop} (F : Fr h₀ L s.heap m) (X : (hd.heap_39 w.params).In h₀) (h : Q (.builtin "re.Pattern.match", [.ref 36]) s) :
    wpAny (model P1 w) A (getMethod (.ref 36) "match" pl) Q E s :=
  have hp : s.heap.get? 36 = some patO := X.keeps F.keep _ _ (pat_in _)
  getMethod_builtin ⟨_, hp, rfl⟩ rePlainAttrs reSlot reType (fun a e => by cases e; exact ⟨_, hp, rfl⟩) h
theorem truthy_match {a : Addr} {o : Obj} {Q : Bool → Shared → Prop} (N : News h₀ L s.heap news) (ha : (a, o) ∈ news) (ho : o.cls = .type "re.Match") (h : Q true s) :
    wpAny (model P1 w) A (truthy (.ref a)) Q E s := by
  have hT : s.TypeIs (.ref a) "re.Match" := ⟨_, (N _ ha).1, ho⟩
  unfold truthy
  refine wpAny_bind (m := callSpecial? (.ref a) (Str.ofString "__bool__")) (wpAny_bind (wpAny_specialOf hT matchNoBool (wpAny_pure ?_)))
  refine wpAny_bind (wpAny_specialOf hT matchNoLen ?_)
  exact wpAny_pure h
theorem tod_match {a : Addr} {o : Obj} {Q : Bool → Shared → Prop} (N : News h₀ L s.heap news) (ha : (a, o) ∈ news) (ho : o.cls = .type "re.Match") (h : Q true s) :
    wpAny (model P1 w) A (truthOfDropped (.ref a)) Q E s := by
  unfold truthOfDropped
  exact wpAny_bind (wpAny_onRaise (wpAny_holding (truthy_match N ha ho (wpAny_bind (wpAny_point (wpAny_pure h))))))
end
end Mine
namespace Mine
theorem modeE1 : True := by
  w_top off
  trivial
theorem fillE (w : World) (h : Heap) : (hd.heap_39 w.params).In h → PySem.Challenge.rw_et5025_01 = PySem.Challenge.rw_et5025_01 := by
  k_fill
  exact fun _ => rfl
local macro_rules | `(tactic| k_all) => `(tactic| assumption)
def colF : List Int → Int → Int
  | [], a => a
  | c :: r, a => if c = 9 then colF r (a.fdiv 8 * 8 + 8) else if c = 32 then colF r (a + 1) else a
theorem one_tab {n : Nat} (hk : (({ cps := #[n] } : Str) == Str.ofString "\t") = true) : (n : Int) = 9 := by
  have e := eq_of_beq hk
  have e' : n = 9 := (congrArg (fun y : Str => y.cps.getD 0 0) e).trans (by decide)
  rw [e']; rfl
theorem one_sp {n : Nat} (hk : (({ cps := #[n] } : Str) == Str.ofString " ") = true) : (n : Int) = 32 := by
  have e := eq_of_beq hk
  have e' : n = 32 := (congrArg (fun y : Str => y.cps.getD 0 0) e).trans (by decide)
  rw [e']; rfl
theorem not_tab {n : Nat} (hk : (({ cps := #[n] } : Str) == Str.ofString "\t") = false) : (n : Int) ≠ 9 := fun q => by
  have : n = 9 := by omega
  subst this
  revert hk; decide
theorem not_sp {n : Nat} (hk : (({ cps := #[n] } : Str) == Str.ofString " ") = false) : (n : Int) ≠ 32 := fun q => by
  have : n = 32 := by omega
  subst this
  revert hk; decide
theorem col_tab {n : Nat} {pre : List Int} {a : Int} (hk : (({ cps := #[n] } : Str) == Str.ofString "\t") = true) (h : ∀ rest : List Int, colF (pre ++ rest) 0 = colF rest a) :
    ∀ rest : List Int, colF ((pre ++ [(n : Int)]) ++ rest) 0 = colF rest (a.fdiv 8 * 8 + 8) := fun rest => by
  rw [List.append_assoc, h]
  show (if (n : Int) = 9 then _ else _) = _
  rw [if_pos (one_tab hk)]; rfl
theorem col_sp {n : Nat} {pre : List Int} {a : Int} (hk : (({ cps := #[n] } : Str) == Str.ofString "\t") = false) (hk' : (({ cps := #[n] } : Str) == Str.ofString " ") = true) (h : ∀ rest : List Int, colF (pre ++ rest) 0 = colF rest a) :
    ∀ rest : List Int, colF ((pre ++ [(n : Int)]) ++ rest) 0 = colF rest (a + 1) := fun rest => by
  rw [List.append_assoc, h]
  show (if (n : Int) = 9 then _ else if (n : Int) = 32 then _ else _) = _
  rw [if_neg (not_tab hk), if_pos (one_sp hk')]; rfl
theorem col_brk {n : Nat} {pre post l : List Int} {a : Int} (hk : (({ cps := #[n] } : Str) == Str.ofString "\t") = false) (hk' : (({ cps := #[n] } : Str) == Str.ofString " ") = false) (h : ∀ rest : List Int, colF (pre ++ rest) 0 = colF rest a)
    (e : l = pre ++ (n : Int) :: post) : a = colF l 0 := by
  rw [e, h]
  show _ = (if (n : Int) = 9 then _ else if (n : Int) = 32 then _ else _)
  rw [if_neg (not_tab hk), if_neg (not_sp hk')]
theorem col_end {l : List Int} {a : Int} (h : ∀ rest : List Int, colF (l ++ rest) 0 = colF rest a) : a = colF l 0 := by
  have := h []
  rw [List.append_nil] at this
  rw [this]; rfl
def expF (x : Str) : Int :=
  if (Builtin.Str.occurrences (Txt.rstripChars x (Str.ofString "\n\r")) (Str.ofString "\t") 0 (Txt.rstripChars x (Str.ofString "\n\r")).length 1).isEmpty = true then
    ((Txt.rstripChars x (Str.ofString "\n\r")).length : Int) - ((Txt.lstrip (Txt.rstripChars x (Str.ofString "\n\r"))).length : Int)
  else colF (KStt.codes (Txt.rstripChars x (Str.ofString "\n\r"))) 0
theorem q_cast {Q : Value → Shared → Prop} {v v' : Int} {t : Tok} {s : Shared} (e : v = v') (q : Q (.int v' t) s) : Q (.int v t) s := e ▸ q
theorem neg_of {b : Bool} (h : b = false) : ¬ b = true := by rw [h]; decide
theorem exp_spec {w : World} {A₀ : Around} {base h₀ : Heap} {outer : List Env} {env : Env} {d u : Nat} {mean : ExcName → Option Value} {mg mb : Str → Option Value}
    {s : Shared} {L : Addr} {m : Str → Option Value} {Q : Value → Shared → Prop} {E : Value → Shared → Prop} {news : List (Addr × Obj)}
    {x : Str} {tx : Nat} (hl : x.length ≤ 64)
    (B : Below A₀ base outer h₀) (F : Fr h₀ L s.heap m) (X : (hd.heap_39 w.params).In h₀) (T : Top V1 L1 mean mg mb h₀) (N : News h₀ L s.heap news)
    (hf : env.frame = some L) (hke : env.scope.kind = .function) (hd : d ≤ 500)
    (h : ∀ tv h' tk, Fr h₀ L h' m → News h₀ L h' news → Q (.int (expF x) tv) { s with heap := h', toks := tk }) :
    wpAny (model P1 w) (AA d u (env :: outer)) (call (.ref 50) [.str x tx] []) Q E s := by
  k_with "pyIter str" => k_state (fun pre r => ∀ rest : List Int, colF (pre ++ rest) 0 = colF rest r) "result"
  k_with "state" => first | exact fun _ => rfl | exact col_tab (by assumption) (by assumption) | exact col_sp (by assumption) (by assumption) (by assumption)
  have hroom : (AA d u (env :: outer)).depth < recursionLimit := by show d < 1000; omega
  refine wpAny_call ?_
  refine' code_def ?k1 ?k2 ?k3 ?k4 ?k5 ?kA ?kF ?kK ?k6 ?k7 ?k8 ?k9 ?kB ?_ ?c2 ?c3 ?c4 ?c5
  (case kA => exact rfl); (case kF => exact hf); (case kK => exact hke); (case k1 => exact B); (case k2 => exact F); (case k3 => exact X); (case k4 => exact N); (case k5 => exact T); (case k6 => k_is); (case k7 => k_is); (case k8 => exact hroom)
  case k9 => exact BindsTo.of_eq rfl
  case c5 => decide
  case kB => exact locs rfl
  (case c2 => exact rfl); (case c3 => exact rfl); (case c4 => exact rfl)
  intro g' L' h' FG' F' N' B' X' T'
  (try dsimp only)
  (try k_lift B')
  (try k_fold)
  k_steps
  all_goals refine q_cast (v' := expF x) ?_ (h _ _ _ (by assumption) (news_sub (by assumption) ?_))
  all_goals first
    | exact fun p hp => hp
    | exact fun p hp => List.mem_append_left _ hp
    | exact (if_pos (by assumption)).symm
    | exact (col_brk (by assumption) (by assumption) (by assumption) (by assumption)).trans (if_neg (neg_of (by assumption))).symm
    | exact (col_end (by assumption)).trans (if_neg (neg_of (by assumption))).symm
  all_goals trace_state
end Mine
namespace Mine
structure RowD where
  text : Str
  width : Int
  sort : Int
  word : Str
def wordsL : List (Str × Int) := [(Str.ofString "def f(): pass", 1), (Str.ofString "def f():", 1), (Str.ofString "class C: pass", 1), (Str.ofString "class C:", 1), (Str.ofString "async def f(): pass", 1),
  (Str.ofString "async  def f():", 1), (Str.ofString "def  g(): pass", 1), (Str.ofString "class\tD: pass", 1), (Str.ofString "@d", 2), (Str.ofString "@d", 2), (Str.ofString "@ e", 2), (Str.ofString "defy = 1", 0),
  (Str.ofString "classes = 2", 0), (Str.ofString "asyncdef = 3", 0), (Str.ofString "x = 1", 0), (Str.ofString "# def f(): pass", 0), (Str.ofString "pass", 0)]
def blanksL : List (Str × Int) := [(Str.ofString "\n", 0), (Str.ofString "\n", 0), (Str.ofString "    \n", 4), (Str.ofString "\t\n", 8), (Str.ofString "  \n", 2), (Str.ofString "\x0c\n", 1)]
def marginsL : List (Str × Int) := [(Str.ofString "", 0), (Str.ofString "", 0), (Str.ofString "", 0), (Str.ofString "    ", 4), (Str.ofString "    ", 4), (Str.ofString "        ", 8), (Str.ofString "\t", 8),
  (Str.ofString "  \t", 8), (Str.ofString "\t ", 9), (Str.ofString "  ", 2)]
def othersL : List (Str × Int) := [(Str.ofString "def g(): pass", 1), (Str.ofString "@x", 2), (Str.ofString "x = 1", 0), (Str.ofString "class D:", 1), (Str.ofString "", 0)]
def blankRow (b : Str × Int) : RowD := ⟨b.1, b.2, -1, Str.ofString ""⟩
def wordRow (mg wd : Str × Int) : RowD := ⟨(mg.1 ++ wd.1) ++ Str.ofString "\n", mg.2, wd.2, wd.1⟩
def RowOk (r : RowD) : Prop := (∃ b ∈ blanksL, r = blankRow b) ∨ ∃ mg ∈ marginsL, ∃ wd ∈ wordsL, r = wordRow mg wd
def goodText (r : RowD) : Bool := decide (r.text.length ≤ 40) && (Txt.strip r.text == r.word) && decide (expF r.text = r.width) && decide (0 ≤ r.width) && decide (r.width ≤ 9)
def goodWord (wd : Str × Int) : Bool := decide (wd.1.length ≤ 20) && reOk wd.1 (decide (wd.2 = 1) || decide (wd.2 = 2)) && (Txt.startswith wd.1 (Str.ofString "@") == decide (wd.2 = 2)) && decide (0 ≤ wd.2) && decide (wd.2 ≤ 2)
theorem good1 : (blanksL.all fun b => goodText (blankRow b)) = true := by decide +kernel
theorem good2 : (marginsL.all fun mg => wordsL.all fun wd => goodText (wordRow mg wd)) = true := by decide +kernel
theorem good3 : (wordsL.all fun wd => goodWord wd) = true := by decide +kernel
theorem good4 : (othersL.all fun wd => goodWord wd) = true := by decide +kernel
end Mine
namespace Mine
theorem blank_all {p : Str × Int → Bool} {l : List (Str × Int)} (h : (l.all p) = true) {b : Str × Int} (hb : b ∈ l) : p b = true := List.all_eq_true.mp h b hb
theorem RowOk.good {r : RowD} (h : RowOk r) : goodText r = true := by
  rcases h with ⟨b, hb, rfl⟩ | ⟨mg, hm, wd, hw, rfl⟩
  · exact List.all_eq_true.mp good1 b hb
  · exact List.all_eq_true.mp (List.all_eq_true.mp good2 mg hm) wd hw
theorem RowOk.len {r : RowD} (h : RowOk r) : r.text.length ≤ 40 := by
  have := h.good; simp only [goodText, Bool.and_eq_true, decide_eq_true_eq, beq_iff_eq] at this; exact this.1.1.1.1
theorem RowOk.strip {r : RowD} (h : RowOk r) : Txt.strip r.text = r.word := by
  have := h.good; simp only [goodText, Bool.and_eq_true, decide_eq_true_eq, beq_iff_eq] at this; exact this.1.1.1.2
theorem RowOk.exp {r : RowD} (h : RowOk r) : expF r.text = r.width := by
  have := h.good; simp only [goodText, Bool.and_eq_true, decide_eq_true_eq, beq_iff_eq] at this; exact this.1.1.2
theorem RowOk.lo {r : RowD} (h : RowOk r) : 0 ≤ r.width := by
  have := h.good; simp only [goodText, Bool.and_eq_true, decide_eq_true_eq, beq_iff_eq] at this; exact this.1.2
theorem RowOk.hi {r : RowD} (h : RowOk r) : r.width ≤ 9 := by
  have := h.good; simp only [goodText, Bool.and_eq_true, decide_eq_true_eq, beq_iff_eq] at this; exact this.2
theorem good5 : reOk (Str.ofString "") false = true := by decide +kernel
theorem good6 : (wordsL.all fun wd => decide (1 ≤ wd.1.length)) = true := by decide +kernel
theorem goodWord_len {wd : Str × Int} (h : goodWord wd = true) : wd.1.length ≤ 20 := by
  simp only [goodWord, Bool.and_eq_true, decide_eq_true_eq, beq_iff_eq] at h; exact h.1.1.1.1
theorem goodWord_re {wd : Str × Int} (h : goodWord wd = true) : reOk wd.1 (decide (wd.2 = 1) || decide (wd.2 = 2)) = true := by
  simp only [goodWord, Bool.and_eq_true] at h; exact h.1.1.1.2
theorem goodWord_at {wd : Str × Int} (h : goodWord wd = true) : Txt.startswith wd.1 (Str.ofString "@") = decide (wd.2 = 2) := by
  simp only [goodWord, Bool.and_eq_true, decide_eq_true_eq, beq_iff_eq] at h; exact h.1.1.2
theorem goodWord_lo {wd : Str × Int} (h : goodWord wd = true) : 0 ≤ wd.2 := by
  simp only [goodWord, Bool.and_eq_true, decide_eq_true_eq, beq_iff_eq] at h; exact h.1.2
theorem goodWord_hi {wd : Str × Int} (h : goodWord wd = true) : wd.2 ≤ 2 := by
  simp only [goodWord, Bool.and_eq_true, decide_eq_true_eq, beq_iff_eq] at h; exact h.2
theorem RowOk.wordCases {r : RowD} (h : RowOk r) : (r.sort = -1 ∧ r.word = Str.ofString "") ∨ (goodWord (r.word, r.sort) = true ∧ 1 ≤ r.word.length) := by
  rcases h with ⟨b, hb, rfl⟩ | ⟨mg, hm, wd, hw, rfl⟩
  · exact .inl ⟨rfl, rfl⟩
  · exact .inr ⟨List.all_eq_true.mp good3 wd hw, of_decide_eq_true (List.all_eq_true.mp good6 wd hw)⟩
theorem re_cast {x y : Str} {b c : Bool} (hx : y = x) (hb : c = b) (h : reOk x b = true) : reOk y c = true := by subst hx; subst hb; exact h
theorem RowOk.re {r : RowD} (h : RowOk r) : reOk r.word (decide (r.sort = 1) || decide (r.sort = 2)) = true := by
  rcases h.wordCases with ⟨e, e'⟩ | ⟨g, _⟩
  · exact re_cast e' (by rw [e]; rfl) good5
  · exact goodWord_re (wd := (r.word, r.sort)) g
theorem RowOk.atSign {r : RowD} (h : RowOk r) : Txt.startswith r.word (Str.ofString "@") = decide (r.sort = 2) := by
  rcases h.wordCases with ⟨e, e'⟩ | ⟨g, _⟩
  · rw [e, e']; decide
  · exact goodWord_at (wd := (r.word, r.sort)) g
theorem RowOk.wlen {r : RowD} (h : RowOk r) : r.word.length ≤ 20 := by
  rcases h.wordCases with ⟨_, e'⟩ | ⟨g, _⟩
  · rw [e']; decide
  · exact goodWord_len (wd := (r.word, r.sort)) g
theorem RowOk.empty {r : RowD} (h : RowOk r) : ((r.word.length : Int) != 0) = decide (r.sort ≠ -1) := by
  rcases h.wordCases with ⟨e, e'⟩ | ⟨g, g'⟩
  · rw [e, e']; decide
  · have := goodWord_lo g
    have h1 : r.sort ≠ -1 := by dsimp only at this; omega
    rw [decide_eq_true h1]
    exact bne_iff_ne.mpr (by omega)
theorem RowOk.sortLo {r : RowD} (h : RowOk r) : -1 ≤ r.sort := by
  rcases h.wordCases with ⟨e, _⟩ | ⟨g, _⟩
  · omega
  · have := goodWord_lo g; dsimp only at this; omega
theorem RowOk.sortHi {r : RowD} (h : RowOk r) : r.sort ≤ 2 := by
  rcases h.wordCases with ⟨e, _⟩ | ⟨g, _⟩
  · omega
  · have := goodWord_hi g; dsimp only at this; omega

/-- the rows' texts, as a list of values -/
def LinesAre (vs : List Value) (rs : List RowD) : Prop := vs.length = rs.length ∧ ∀ (k : Nat) (r : RowD), rs[k]? = some r → ∃ t, vs[k]? = some (Value.str r.text t)
section
variable {prog : Program} {w : World} {A : Around} {E : Value → Shared → Prop} {s : Shared} {h₀ : Heap} {L ln : Addr} {m : Str → Option Value} {news : List (Addr × Obj)} {vs : List Value} {rs : List RowD} {nn : Nat}
theorem lines_sub {value slice : PySem.Expr} {k : Int} {t : Tok} {Q : Value → Shared → Prop} (N : News h₀ L s.heap news) (hm : (ln, listOf vs.toArray nn) ∈ news) (hL : LinesAre vs rs) (hl : rs.length ≤ 100) (hok : ∀ r ∈ rs, RowOk r)
    (h0 : 0 ≤ k) (h1 : k < (rs.length : Int)) (h : ∀ r t, rs[k.toNat]? = some r → RowOk r → Q (.str r.text t) s)
    (hs : subscripted slice false (.ref ln) (.int k t) = operate [.ref ln, .int k t] (getItem (.ref ln) (.int k t)) := by with_unfolding_all rfl) :
    wpAny (model prog w) A (subscriptTail value slice (.ref ln) (.int k t)) Q E s := by
  have hk : k.toNat < rs.length := by omega
  obtain ⟨tv, hv⟩ := hL.2 k.toNat _ (List.getElem?_eq_getElem hk)
  have hi : s.heap.IsList ln vs.toArray := PySem.IsL.isList (n := nn) (N _ hm).1
  exact tail_any hi.typeIs slot_list_getitem.lookup (wpAny_getItem_list hi h0 (by omega) (by simpa using hv) (h _ _ (List.getElem?_eq_getElem hk) (hok _ (List.getElem_mem hk)))) hs
theorem lines_len {Q : Value → Shared → Prop} (N : News h₀ L s.heap news) (hm : (ln, listOf vs.toArray nn) ∈ news) (hL : LinesAre vs rs) (hl : rs.length ≤ 100) (h : ∀ t k, Q (.int (rs.length : Int) t) { s with toks := k }) :
    wpAny (model prog w) A (call (.builtin "len") [.ref ln]) Q E s := by
  have hi : s.heap.IsList ln vs.toArray := PySem.IsL.isList (n := nn) (N _ hm).1
  have hz : vs.toArray.size = rs.length := by rw [List.size_toArray]; exact hL.1
  refine PyProof.Rows.len_list hi (by rw [hz]; omega) ?_
  rw [hz]; exact h _ _
theorem strip_row {r : RowD} {t : Tok} {Q : Value → Shared → Prop} (ho : RowOk r) (h : ∀ t' k, Q (.str r.word t') { s with toks := k }) : wpAny (model prog w) A (call (.builtin "str.strip") [.str r.text t]) Q E s := by
  have := ho.len
  refine SC.strip (fun t' k => ?_) (by rw [sizeLine_eq]; omega)
  rw [ho.strip]; exact h _ _
theorem starts_row {r : RowD} {t u : Tok} {Q : Value → Shared → Prop} (ho : RowOk r) (h : Q (.bool (decide (r.sort = 2))) s) : wpAny (model prog w) A (call (.builtin "str.startswith") [.str r.word t, .str (Str.ofString "@") u]) Q E s := by
  refine SC.startswith ?_
  rw [ho.atSign]; exact h
theorem truthy_word {r : RowD} {t : Tok} {Q : Bool → Shared → Prop} (ho : RowOk r) (h : ∀ k, Q (decide (r.sort ≠ -1)) { s with toks := k }) : wpAny (model prog w) A (truthy (.str r.word t)) Q E s := by
  have := ho.wlen
  refine P.truthy_str (by omega) ?_
  rw [ho.empty]; exact h _
end

/-- a while over a place: one name counts up by one, another is stored -/
def IdxPost (h₀ : Heap) (L : Addr) (s : Shared) (x y : Str) (m₀ : Str → Option Value) (news : List (Addr × Obj)) (len : Nat) (P : Nat → Prop) (i : Nat) (Q : Flow → Shared → Prop) (f : Flow) (s₃ : Shared) : Prop :=
  match f with
  | .ret v => Q (.ret v) s₃
  | .brk => Q .next s₃
  | _ => ∃ h' tk m₂ news₂, s₃ = { s with heap := h', toks := tk } ∧ Fr h₀ L h' m₂ ∧ News h₀ L h' news₂ ∧ (∀ p ∈ news, p ∈ news₂) ∧ (∃ t, m₂ x = some (.int ((i : Int) + 1) t)) ∧ (∀ z, z ≠ x → z ≠ y → m₂ z = m₀ z) ∧ i < len ∧ P (i + 1)
theorem IdxPost.intro {h₀ : Heap} {L : Addr} {s : Shared} {x y : Str} {m₀ : Str → Option Value} {news : List (Addr × Obj)} {len : Nat} {P : Nat → Prop} {i : Nat} {Q : Flow → Shared → Prop} {h' : Heap} {tk : Nat} {m₂ : Str → Option Value} {news₂ : List (Addr × Obj)}
    (F : Fr h₀ L h' m₂) (N : News h₀ L h' news₂) (hn : ∀ p ∈ news, p ∈ news₂) (hx : ∃ t, m₂ x = some (.int ((i : Int) + 1) t)) (hz : ∀ z, z ≠ x → z ≠ y → m₂ z = m₀ z) (hi : i < len) (hP : P (i + 1)) :
    IdxPost h₀ L s x y m₀ news len P i Q .next { s with heap := h', toks := tk } := ⟨h', tk, m₂, news₂, rfl, F, N, hn, hx, hz, hi, hP⟩
section
variable {prog : Program} {w : World} {A : Around} {E : Value → Shared → Prop} {Q : Flow → Shared → Prop} {s : Shared} {env : Env} {h₀ : Heap} {L : Addr}
theorem idx_while {test : PySem.Expr} {body orelse : List Stmt} {pos : Pos} {m₀ : Str → Option Value} {news : List (Addr × Obj)} (x y : Str) (P : Nat → Prop) (len i₀ : Nat) {e : Int} {t₀ : Tok} 
    (F : Fr h₀ L s.heap m₀) (N : News h₀ L s.heap news) (hx : m₀ x = some (.int e t₀)) (he : e = (i₀ : Int)) (hi : i₀ ≤ len) (hP : P i₀)
    (turn : ∀ (i : Nat) t (u : Option Value) h tk, i ≤ len → P i → Fr h₀ L h (fun z => if z = x then some (.int (i : Int) t) else if z = y then u else m₀ z) → News h₀ L h news →
      wpAny (model prog w) A (isTrue test env (eval test env)) (fun b s₂ =>
        if b = true then wpAny (model prog w) A (execs body env) (IdxPost h₀ L s x y m₀ news len P i Q) E s₂ else wpAny (model prog w) A (execs orelse env) Q E s₂) E { s with heap := h, toks := tk })
    (hE : PassesOwn (model prog w) A env E := by passes_own) :
    wpAny (model prog w) A (exec (.While test body orelse pos) env) Q E s := by
  subst he
  refine wpAny_While (codeAny_whileLoop (fun n s' => ∃ h₁ tk₁ m₁ i, s' = { s with heap := h₁, toks := tk₁ } ∧ Fr h₀ L h₁ m₁ ∧ News h₀ L h₁ news ∧ (∃ t, m₁ x = some (.int ((i : Nat) : Int) t)) ∧ (∀ z, z ≠ x → z ≠ y → m₁ z = m₀ z) ∧ i ≤ len ∧ P i ∧ n = len - i) ?_ (len - i₀)
    ⟨s.heap, s.toks, m₀, i₀, rfl, F, N, ⟨_, hx⟩, fun _ _ _ => rfl, hi, hP, rfl⟩)
  rintro n s' ⟨h₁, tk₁, m₁, i, rfl, F₁, N₁, ⟨t, hx₁⟩, hz₁, hi₁, hP₁, rfl⟩
  have em : m₁ = fun z => if z = x then some (.int (i : Int) t) else if z = y then m₁ y else m₀ z := by
    funext z
    by_cases h1 : z = x
    · rw [if_pos h1, h1]; exact hx₁
    · rw [if_neg h1]
      by_cases h2 : z = y
      · rw [if_pos h2, h2]
      · rw [if_neg h2]; exact hz₁ z h1 h2
  rw [em] at F₁
  refine wpAny_mono (turn i t (m₁ y) h₁ tk₁ hi₁ hP₁ F₁ N₁) (fun b s₂ h₂ => ?_) hE
  cases b with
  | false =>
    simp only [Bool.false_eq_true, if_false] at h₂ ⊢
    exact wpAny_mono h₂ (fun f s₃ q => q) hE
  | true =>
    simp only [if_true] at h₂ ⊢
    refine wpAny_mono h₂ (fun f s₃ h₃ => ?_) hE
    cases f with
    | next =>
      obtain ⟨h', tk, m₂, news₂, rfl, F₂, N₂, hn, hx₂, hz₂, hi₂, hP₂⟩ := h₃
      exact ⟨len - (i + 1), by omega, h', tk, m₂, i + 1, rfl, F₂, news_sub N₂ hn, by simpa using hx₂, hz₂, hi₂, hP₂, rfl⟩
    | cont =>
      obtain ⟨h', tk, m₂, news₂, rfl, F₂, N₂, hn, hx₂, hz₂, hi₂, hP₂⟩ := h₃
      exact ⟨len - (i + 1), by omega, h', tk, m₂, i + 1, rfl, F₂, news_sub N₂ hn, by simpa using hx₂, hz₂, hi₂, hP₂, rfl⟩
    | brk => exact h₃
    | ret v => exact h₃
end

/-- the plain answer -/
def D1f (rs : List RowD) (i : Nat) : List RowD := (rs.drop i).dropWhile (fun r => decide (r.sort ≠ 1))
def D2f (rs : List RowD) (i : Nat) : List RowD := (rs.drop i).dropWhile (fun r => decide (r.sort = -1))
def lastAns (l : List RowD) (level : Int) : Bool := match l with
  | [] => true
  | r :: _ => decide (r.width ≤ level)
def tailAns (l : List RowD) (level : Int) : Bool := match l with
  | [] => false
  | _ :: rest => lastAns (D2f rest 0) level
def prevDeep (rs : List RowD) (i : Nat) (level : Int) : Bool := match rs[i - 1]? with
  | some r => decide (0 < i) && decide (level < r.width)
  | none => false
def answer (rs : List RowD) (i : Nat) (b : Bool) (level : Int) : Bool :=
  if b = false then false else if prevDeep rs i level = true then false else tailAns (D1f rs i) level
end Mine
namespace Mine
theorem modeO2 : True := by
  w_top off
  trivial
theorem fillO (w : World) (h : Heap) : (hd.heap_39 w.params).In h → PySem.Challenge.rw_et5025_01 = PySem.Challenge.rw_et5025_01 := by
  k_fill
  exact fun _ => rfl
/-- expand_indent of a row's text -/
theorem exp_row {w : World} {A₀ : Around} {base h₀ : Heap} {outer : List Env} {env : Env} {d u : Nat} {mean : ExcName → Option Value} {mg mb : Str → Option Value}
    {s : Shared} {L : Addr} {m : Str → Option Value} {Q : Value → Shared → Prop} {E : Value → Shared → Prop} {news : List (Addr × Obj)} {r : RowD} {tx : Nat} (ho : RowOk r)
    (B : Below A₀ base outer h₀) (F : Fr h₀ L s.heap m) (X : (hd.heap_39 w.params).In h₀) (T : Top V1 L1 mean mg mb h₀) (N : News h₀ L s.heap news)
    (hf : env.frame = some L) (hke : env.scope.kind = .function) (hd : d ≤ 500)
    (h : ∀ tv h' tk, Fr h₀ L h' m → News h₀ L h' news → Q (.int r.width tv) { s with heap := h', toks := tk }) :
    wpAny (model P1 w) (AA d u (env :: outer)) (call (.ref 50) [.str r.text tx] []) Q E s :=
  exp_spec (Nat.le_trans ho.len (by decide)) B F X T N hf hke hd (fun tv h' tk F' N' => q_cast ho.exp (h tv h' tk F' N'))
theorem mem_get {α : Type} {l : List α} {k : Nat} {a : α} (h : l[k]? = some a) : a ∈ l := List.mem_of_getElem? h
theorem D1_step {rs : List RowD} {i : Nat} {r : RowD} (h : rs[i]? = some r) (hs : r.sort ≠ 1) : D1f rs i = D1f rs (i + 1) := by
  unfold D1f
  obtain ⟨hi, e⟩ := List.getElem?_eq_some_iff.mp h
  rw [List.drop_eq_getElem_cons hi, e, List.dropWhile_cons_of_pos (by simpa using hs)]
theorem D1_stop {rs : List RowD} {i : Nat} {r : RowD} (h : rs[i]? = some r) (hs : r.sort = 1) : D1f rs i = r :: rs.drop (i + 1) := by
  unfold D1f
  obtain ⟨hi, e⟩ := List.getElem?_eq_some_iff.mp h
  rw [List.drop_eq_getElem_cons hi, e, List.dropWhile_cons_of_neg (by simpa using hs)]
theorem D2_step {rs : List RowD} {i : Nat} {r : RowD} (h : rs[i]? = some r) (hs : r.sort = -1) : D2f rs i = D2f rs (i + 1) := by
  unfold D2f
  obtain ⟨hi, e⟩ := List.getElem?_eq_some_iff.mp h
  rw [List.drop_eq_getElem_cons hi, e, List.dropWhile_cons_of_pos (by simpa using hs)]
theorem D2_stop {rs : List RowD} {i : Nat} {r : RowD} (h : rs[i]? = some r) (hs : r.sort ≠ -1) : D2f rs i = r :: rs.drop (i + 1) := by
  unfold D2f
  obtain ⟨hi, e⟩ := List.getElem?_eq_some_iff.mp h
  rw [List.drop_eq_getElem_cons hi, e, List.dropWhile_cons_of_neg (by simpa using hs)]
theorem D1_end {rs : List RowD} {i : Nat} (h : rs.length ≤ i) : D1f rs i = [] := by
  unfold D1f; rw [List.drop_eq_nil_of_le h]; rfl
theorem D2_end {rs : List RowD} {i : Nat} (h : rs.length ≤ i) : D2f rs i = [] := by
  unfold D2f; rw [List.drop_eq_nil_of_le h]; rfl
section
variable {prog : Program} {w : World} {A : Around} {E : Value → Shared → Prop} {Q : Flow → Shared → Prop} {s : Shared} {env : Env} {h₀ : Heap} {L : Addr} {vs : List Value} {rs : List RowD}
theorem while1 {test : PySem.Expr} {body orelse : List Stmt} {pos : Pos} {m₀ : Str → Option Value} {news : List (Addr × Obj)} {e : Int} {t₀ : Tok} (hL : LinesAre vs rs)
    (F : Fr h₀ L s.heap m₀) (N : News h₀ L s.heap news) (hx : m₀ (Str.ofString "line_idx") = some (.int e t₀)) (h0 : 0 ≤ e) (h1 : e ≤ (rs.length : Int))
    (turn : ∀ (i : Nat) t (u : Option Value) h tk, i ≤ rs.length → D1f rs e.toNat = D1f rs i → Fr h₀ L h (fun z => if z = Str.ofString "line_idx" then some (.int (i : Int) t) else if z = Str.ofString "line" then u else m₀ z) → News h₀ L h news →
      wpAny (model prog w) A (isTrue test env (eval test env)) (fun b s₂ =>
        if b = true then wpAny (model prog w) A (execs body env) (IdxPost h₀ L s (Str.ofString "line_idx") (Str.ofString "line") m₀ news rs.length (fun i => D1f rs e.toNat = D1f rs i) i Q) E s₂ else wpAny (model prog w) A (execs orelse env) Q E s₂) E { s with heap := h, toks := tk })
    (hE : PassesOwn (model prog w) A env E := by passes_own) :
    wpAny (model prog w) A (exec (.While test body orelse pos) env) Q E s :=
  idx_while (Str.ofString "line_idx") (Str.ofString "line") (fun i => D1f rs e.toNat = D1f rs i) rs.length e.toNat F N hx (by omega) (by omega) rfl turn hE
theorem while2 {test : PySem.Expr} {body orelse : List Stmt} {pos : Pos} {m₀ : Str → Option Value} {news : List (Addr × Obj)} {e : Int} {t₀ : Tok} (hL : LinesAre vs rs)
    (F : Fr h₀ L s.heap m₀) (N : News h₀ L s.heap news) (hx : m₀ (Str.ofString "next_idx") = some (.int e t₀)) (h0 : 0 ≤ e) (h1 : e ≤ (rs.length : Int))
    (turn : ∀ (i : Nat) t (u : Option Value) h tk, i ≤ rs.length → D2f rs e.toNat = D2f rs i → Fr h₀ L h (fun z => if z = Str.ofString "next_idx" then some (.int (i : Int) t) else if z = Str.ofString "line" then u else m₀ z) → News h₀ L h news →
      wpAny (model prog w) A (isTrue test env (eval test env)) (fun b s₂ =>
        if b = true then wpAny (model prog w) A (execs body env) (IdxPost h₀ L s (Str.ofString "next_idx") (Str.ofString "line") m₀ news rs.length (fun i => D2f rs e.toNat = D2f rs i) i Q) E s₂ else wpAny (model prog w) A (execs orelse env) Q E s₂) E { s with heap := h, toks := tk })
    (hE : PassesOwn (model prog w) A env E := by passes_own) :
    wpAny (model prog w) A (exec (.While test body orelse pos) env) Q E s :=
  idx_while (Str.ofString "next_idx") (Str.ofString "line") (fun i => D2f rs e.toNat = D2f rs i) rs.length e.toNat F N hx (by omega) (by omega) rfl turn hE
end
theorem ans_b {rs : List RowD} {pl : Nat} {b : Bool} {level : Int} (hb : b = false) : answer rs pl b level = false := by unfold answer; rw [if_pos hb]
theorem ans_prev {rs : List RowD} {pl : Nat} {b : Bool} {level : Int} {r : RowD} (h1 : ¬ (pl : Int) + 1 - 1 < 1) (hr : rs[((pl : Int) + 1 - 1 - 1).toNat]? = some r) (hw : level < r.width) : answer rs pl b level = false := by
  unfold answer
  have e : ((pl : Int) + 1 - 1 - 1).toNat = pl - 1 := by omega
  rw [e] at hr
  have hd : prevDeep rs pl level = true := by
    unfold prevDeep; rw [hr]; simp only [Bool.and_eq_true, decide_eq_true_eq]; exact ⟨by omega, hw⟩
  rw [if_pos hd]; split <;> rfl
def Shallow (rs : List RowD) (pl : Nat) (level : Int) : Prop := (pl : Int) + 1 - 1 < 1 ∨ ∃ r, rs[((pl : Int) + 1 - 1 - 1).toNat]? = some r ∧ ¬ level < r.width
theorem ans_main {rs : List RowD} {pl : Nat} {b : Bool} {level : Int} (hb : b = true) (hp : Shallow rs pl level) : answer rs pl b level = tailAns (D1f rs pl) level := by
  unfold answer
  rw [if_neg (by rw [hb]; decide)]
  have hd : prevDeep rs pl level = false := by
    unfold prevDeep
    rcases hp with h | ⟨r, hr, hw⟩
    · have : ¬ 0 < pl := by omega
      split
      · rw [decide_eq_false this]; rfl
      · rfl
    · have e : ((pl : Int) + 1 - 1 - 1).toNat = pl - 1 := by omega
      rw [e] at hr
      rw [hr]; dsimp only; rw [decide_eq_false hw, Bool.and_false]
  rw [if_neg (by rw [hd]; decide)]
theorem ans3 {rs : List RowD} {pl i : Nat} {b : Bool} {level : Int} (hb : b = true) (hp : Shallow rs pl level) (h1 : D1f rs ((pl : Int) + 1 - 1).toNat = D1f rs i) (hi : ¬ (i : Int) < (rs.length : Int)) : answer rs pl b level = false := by
  rw [ans_main hb hp]
  have e : ((pl : Int) + 1 - 1).toNat = pl := by omega
  rw [e] at h1
  rw [h1, D1_end (by omega)]; rfl
theorem ans_mid {rs : List RowD} {pl i : Nat} {b : Bool} {level : Int} {r : RowD} (hb : b = true) (hp : Shallow rs pl level) (h1 : D1f rs ((pl : Int) + 1 - 1).toNat = D1f rs i) (hr : rs[i]? = some r) (hs : r.sort = 1) :
    answer rs pl b level = lastAns (D2f rs (i + 1)) level := by
  rw [ans_main hb hp]
  have e : ((pl : Int) + 1 - 1).toNat = pl := by omega
  rw [e] at h1
  rw [h1, D1_stop hr hs]
  show lastAns (D2f (rs.drop (i + 1)) 0) level = _
  unfold D2f; rw [List.drop_zero]
theorem ans4 {rs : List RowD} {pl i j : Nat} {b : Bool} {level : Int} {r : RowD} (hb : b = true) (hp : Shallow rs pl level) (h1 : D1f rs ((pl : Int) + 1 - 1).toNat = D1f rs i) (hr : rs[i]? = some r) (hs : r.sort = 1)
    (h2 : D2f rs ((i : Int) + 1).toNat = D2f rs j) (hj : ¬ (j : Int) < (rs.length : Int)) : answer rs pl b level = true := by
  rw [ans_mid hb hp h1 hr hs]
  have e : ((i : Int) + 1).toNat = i + 1 := by omega
  rw [e] at h2
  rw [h2, D2_end (by omega)]; rfl
theorem ans5 {rs : List RowD} {pl i j : Nat} {b : Bool} {level : Int} {r r2 r3 : RowD} (hb : b = true) (hp : Shallow rs pl level) (h1 : D1f rs ((pl : Int) + 1 - 1).toNat = D1f rs i) (hr : rs[i]? = some r) (hs : r.sort = 1)
    (h2 : D2f rs ((i : Int) + 1).toNat = D2f rs j) (hs2 : r2.sort ≠ -1) (hr2 : rs[j]? = some r2) (hr3 : rs[j]? = some r3) : answer rs pl b level = decide (r3.width ≤ level) := by
  have e23 : r2 = r3 := Option.some.inj (hr2.symm.trans hr3)
  subst e23
  rw [ans_mid hb hp h1 hr hs]
  have e : ((i : Int) + 1).toNat = i + 1 := by omega
  rw [e] at h2
  rw [h2, D2_stop hr2 hs2]; rfl
theorem b_cast {Q : Value → Shared → Prop} {v v' : Bool} {s : Shared} (e : v' = v) (q : Q (.bool v') s) : Q (.bool v) s := e ▸ q
theorem re_false {r : RowD} (h : (decide (r.sort = 1) || decide (r.sort = 2)) = false) : r.sort ≠ 1 := fun q => by
  rw [decide_eq_true q] at h; cases h
theorem re_true {r : RowD} (h : (decide (r.sort = 1) || decide (r.sort = 2)) = true) (h2 : ¬ r.sort = 2) : r.sort = 1 := by
  rw [decide_eq_false h2, Bool.or_false] at h; exact of_decide_eq_true h
local macro_rules | `(tactic| k_all) => `(tactic| assumption)
local macro_rules | `(tactic| walk_at "getMethod ref") => `(tactic| (k_here; (with_reducible show wpAny _ _ (getMethod (Value.ref 36) _ _) _ _ _); refine' getMethod_pat ?k1 ?k2 ?_; (case k1 => k_asm); (case k2 => k_asm)))
local macro_rules | `(tactic| walk_at "call builtin:re.Pattern.match") => `(tactic| (k_here; refine' match_call ?k1 ?k2 ?k3 ?k4 ?_ ?_; (case k1 => k_asm); (case k2 => k_asm); (case k3 => k_asm); (case k4 => first | assumption | exact RowOk.re (by assumption))))
local macro_rules | `(tactic| walk_at "truthy ref") => `(tactic| (k_here; refine' truthy_match ?k1 ?k2 ?k3 ?_; (case k1 => k_asm); (case k2 => k_mem); (case k3 => assumption)))
local macro_rules | `(tactic| walk_at "subscriptTail") => `(tactic| (k_here; (with_reducible show wpAny _ _ (subscriptTail _ _ (Value.ref _) (Value.int _ _)) _ _ _); refine' lines_sub ?k1 ?k2 ?k3 ?k4 ?k5 ?k6 ?k7 ?_ ?k8; (case k1 => k_asm); (case k2 => k_mem); (case k3 => assumption); (case k4 => assumption); (case k5 => assumption); (case k6 => omega); (case k7 => omega); (case k8 => with_unfolding_all rfl); intro r' t' hr' ho'; (try simp only [Int.toNat_natCast] at hr')))
local macro_rules | `(tactic| walk_at "call builtin:len") => `(tactic| (k_here; refine' lines_len ?k1 ?k2 ?k3 ?k4 ?_; (case k1 => k_asm); (case k2 => k_mem); (case k3 => assumption); (case k4 => assumption); intro t' k'))
local macro_rules | `(tactic| walk_at "call builtin:str.strip") => `(tactic| (k_here; refine' strip_row ?k1 ?_; (case k1 => assumption); intro t' k'))
local macro_rules | `(tactic| walk_at "call builtin:str.startswith") => `(tactic| (k_here; refine' starts_row ?k1 ?_; (case k1 => assumption)))
local macro_rules | `(tactic| walk_at "truthy str") => `(tactic| (k_here; refine' truthy_word ?k1 ?_; (case k1 => assumption); intro k'))
local macro_rules | `(tactic| walk_at "call ref") => `(tactic| (k_here; (with_reducible show wpAny _ _ (call (Value.ref 50) _ _) _ _ _); refine' exp_row ?k1 ?k2 ?k3 ?k4 ?k5 ?k6 ?k7 ?k8 ?k9 ?_; (case k1 => assumption); (case k2 => assumption); (case k3 => k_asm); (case k4 => k_asm); (case k5 => k_asm); (case k6 => k_asm); (case k7 => rfl); (case k8 => rfl); (case k9 => first | omega | (dsimp only; omega)); intro tv' h' tk' F' N'))
local macro_rules | `(tactic| walk_at "exec While") => `(tactic| (k_here; (with_reducible show wpAny _ _ (exec (Stmt.While (Expr.Compare (Expr.Name (Str.ofString "line_idx") _) _ _ _) _ _ _) _) _ _ _); (rename Fr _ _ _ _ => lF'); (rename News _ _ _ _ => lN'); (rename LinesAre _ _ => lL'); (with_unfolding_all refine' while1 lL' lF' lN' ?kx ?k0 ?k1 ?_); (case kx => exact rfl); (case k0 => omega); (case k1 => omega); intro i' t' u' h' tk' hi' hP' F' N'; (try clear lF' lN'); (try k_fold)))
local macro_rules | `(tactic| walk_at "exec While") => `(tactic| (k_here; (with_reducible show wpAny _ _ (exec (Stmt.While (Expr.Compare (Expr.Name (Str.ofString "next_idx") _) _ _ _) _ _ _) _) _ _ _); (rename Fr _ _ _ _ => lF'); (rename News _ _ _ _ => lN'); (rename LinesAre _ _ => lL'); (with_unfolding_all refine' while2 lL' lF' lN' ?kx ?k0 ?k1 ?_); (case kx => exact rfl); (case k0 => omega); (case k1 => omega); intro i' t' u' h' tk' hi' hP' F' N'; (try clear lF' lN'); (try k_fold)))
local macro_rules | `(tactic| walk_at "exec While Compare cons cons") => `(tactic| walk_at "exec While")
local macro_rules | `(tactic| walk_at "IdxPost") => `(tactic| (dsimp only [IdxPost]))
local macro_rules | `(tactic| walk_at "IdxPost") => `(tactic| (refine IdxPost.intro (by assumption) (by assumption) ?hn ?hx ?hz ?hi ?hP; (case hn => exact fun p hp => hp); (case hx => exact ⟨_, rfl⟩); (case hz => (intro z h1 h2; (try dsimp only); (repeat first | rw [if_neg h1] | rw [if_neg h2]); (try rfl))); (case hi => omega); (case hP => first | exact Eq.trans (by assumption) (D1_step (by assumption) (by first | omega | exact re_false (by assumption))) | exact Eq.trans (by assumption) (D2_step (by assumption) (by omega)))))
theorem one_spec {w : World} {A₀ : Around} {base h₀ : Heap} {outer : List Env} {env : Env} {d u : Nat} {mean : ExcName → Option Value} {mg mb : Str → Option Value}
    {s : Shared} {L : Addr} {m : Str → Option Value} {Q : Value → Shared → Prop} {E : Value → Shared → Prop} {news : List (Addr × Obj)}
    {ln : Addr} {x : Str} {level : Int} {tx tl ta nn pl : Nat} {vs : List Value} {rs : List RowD} {b : Bool} (hx : reOk x b = true)
    (B : Below A₀ base outer h₀) (F : Fr h₀ L s.heap m) (X : (hd.heap_39 w.params).In h₀) (T : Top V1 L1 mean mg mb h₀) (N : News h₀ L s.heap news)
    (hf : env.frame = some L) (hke : env.scope.kind = .function) (hd : d ≤ 490)
    (hln : (ln, listOf vs.toArray nn) ∈ news) (hL : LinesAre vs rs) (hlen : rs.length ≤ 100) (hok : ∀ r ∈ rs, RowOk r) (hpl : pl < rs.length) (hlev : 0 ≤ level)
    (h : ∀ h' tk, Fr h₀ L h' m → News h₀ L h' news → Q (.bool (answer rs pl b level)) { s with heap := h', toks := tk }) :
    wpAny (model P1 w) (AA d u (env :: outer)) (call (.ref 43) [.str x tx, .int level tl, .ref ln, .int ((pl : Int) + 1) ta] []) Q E s := by
  have hroom : (AA d u (env :: outer)).depth < recursionLimit := by show d < 1000; omega
  have N0 : News h₀ L s.heap ((ln, listOf vs.toArray nn) :: news) := news_sub N fun p hp => by
    rcases List.mem_cons.mp hp with rfl | hp
    · exact hln
    · exact hp
  clear N hln
  refine wpAny_call ?_
  refine' code_def ?k1 ?k2 ?k3 ?k4 ?k5 ?kA ?kF ?kK ?k6 ?k7 ?k8 ?k9 ?kB ?_ ?c2 ?c3 ?c4 ?c5
  (case kA => exact rfl); (case kF => exact hf); (case kK => exact hke); (case k1 => exact B); (case k2 => exact F); (case k3 => exact X); (case k4 => exact N0); (case k5 => exact T); (case k6 => k_is); (case k7 => k_is); (case k8 => exact hroom)
  case k9 => exact BindsTo.of_eq rfl
  case c5 => decide
  case kB => exact locs rfl
  (case c2 => exact rfl); (case c3 => exact rfl); (case c4 => exact rfl)
  intro g' L' h' FG' F' N' B' X' T'
  (try dsimp only)
  (try k_lift B')
  (try k_fold)
  k_steps
  all_goals first | refine b_cast ?_ (h _ _ (by assumption) (news_sub (by assumption) ?_)) | skip
  all_goals first
    | (intro p hp; repeat (first | exact hp | refine List.Mem.tail _ ?_))
    | exact ans_b (by assumption)
    | exact ans_prev (by assumption) (by assumption) (by assumption)
    | exact ans3 (by assumption) (by first | exact Or.inl (by assumption) | exact Or.inr ⟨_, by assumption, by assumption⟩) (by assumption) (by assumption)
    | exact ans4 (by assumption) (by first | exact Or.inl (by assumption) | exact Or.inr ⟨_, by assumption, by assumption⟩) (by assumption) (by assumption) (re_true (by assumption) (by assumption)) (by assumption) (by assumption)
    | exact ans5 (by assumption) (by first | exact Or.inl (by assumption) | exact Or.inr ⟨_, by assumption, by assumption⟩) (by assumption) (by assumption) (re_true (by assumption) (by assumption)) (by assumption) (by assumption) (by assumption) (by assumption)
    | skip
  all_goals trace_state
end Mine
namespace Mine
theorem modeP1 : True := by
  w_top off
  trivial
theorem fillP (w : World) (h : Heap) : (hd.heap_39 w.params).In h → PySem.Challenge.rw_et5025_01 = PySem.Challenge.rw_et5025_01 := by
  k_fill
  exact fun _ => rfl
abbrev pairO (p : Str × Int) (t1 t2 n : Nat) : Obj := listOf #[.str p.1 t1, .int p.2 t2] n
abbrev rowO (r : RowD) (t1 t2 t3 t4 n : Nat) : Obj := listOf #[.str r.text t1, .int r.width t2, .int r.sort t3, .str r.word t4] n
inductive PairsAll (news : List (Addr × Obj)) : List Value → List (Str × Int) → Prop
  | nil : PairsAll news [] []
  | cons {a : Addr} {p : Str × Int} {t1 t2 n : Nat} {vs : List Value} {ps : List (Str × Int)} : (a, pairO p t1 t2 n) ∈ news → PairsAll news vs ps → PairsAll news (.ref a :: vs) (p :: ps)
inductive RowsAll (news : List (Addr × Obj)) : List Value → List RowD → Prop
  | nil : RowsAll news [] []
  | cons {a : Addr} {r : RowD} {t1 t2 t3 t4 n : Nat} {vs : List Value} {rs : List RowD} : (a, rowO r t1 t2 t3 t4 n) ∈ news → RowsAll news vs rs → RowsAll news (.ref a :: vs) (r :: rs)
section
variable {news news' : List (Addr × Obj)} {vs ws : List Value} {ps : List (Str × Int)} {rs qs : List RowD}
theorem PairsAll.mono (h : PairsAll news vs ps) (hs : ∀ a p t1 t2 n, (a, pairO p t1 t2 n) ∈ news → (a, pairO p t1 t2 n) ∈ news') : PairsAll news' vs ps := by
  induction h with
  | nil => exact .nil
  | cons hm _ ih => exact .cons (hs _ _ _ _ _ hm) ih
theorem PairsAll.length (h : PairsAll news vs ps) : vs.length = ps.length := by
  induction h with
  | nil => rfl
  | cons _ _ ih => rw [List.length_cons, List.length_cons, ih]
theorem PairsAll.get (h : PairsAll news vs ps) : ∀ {k : Nat} {p : Str × Int}, ps[k]? = some p → ∃ a t1 t2 n, vs[k]? = some (.ref a) ∧ (a, pairO p t1 t2 n) ∈ news := by
  induction h with
  | nil => intro k p e; cases e
  | cons hm _ ih =>
    intro k p e
    cases k with
    | zero => cases e; exact ⟨_, _, _, _, rfl, hm⟩
    | succ k => exact ih e
theorem RowsAll.mono (h : RowsAll news vs rs) (hs : ∀ a r t1 t2 t3 t4 n, (a, rowO r t1 t2 t3 t4 n) ∈ news → (a, rowO r t1 t2 t3 t4 n) ∈ news') : RowsAll news' vs rs := by
  induction h with
  | nil => exact .nil
  | cons hm _ ih => exact .cons (hs _ _ _ _ _ _ _ hm) ih
theorem RowsAll.length (h : RowsAll news vs rs) : vs.length = rs.length := by
  induction h with
  | nil => rfl
  | cons _ _ ih => rw [List.length_cons, List.length_cons, ih]
theorem RowsAll.get (h : RowsAll news vs rs) : ∀ {k : Nat} {r : RowD}, rs[k]? = some r → ∃ a t1 t2 t3 t4 n, vs[k]? = some (.ref a) ∧ (a, rowO r t1 t2 t3 t4 n) ∈ news := by
  induction h with
  | nil => intro k r e; cases e
  | cons hm _ ih =>
    intro k r e
    cases k with
    | zero => cases e; exact ⟨_, _, _, _, _, _, rfl, hm⟩
    | succ k => exact ih e
theorem RowsAll.append (h : RowsAll news vs rs) (k : RowsAll news ws qs) : RowsAll news (vs ++ ws) (rs ++ qs) := by
  induction h with
  | nil => exact k
  | cons hm _ ih => exact .cons hm ih
theorem RowsAll.drop (h : RowsAll news vs rs) : ∀ k, RowsAll news (vs.drop k) (rs.drop k) := by
  induction h with
  | nil => intro k; simpa using RowsAll.nil
  | cons hm hr ih =>
    intro k
    cases k with
    | zero => exact .cons hm hr
    | succ k => exact ih k
end
local macro_rules | `(tactic| k_all) => `(tactic| assumption)
theorem rows_spec {w : World} {A₀ : Around} {base h₀ : Heap} {outer : List Env} {env : Env} {d u : Nat} {mean : ExcName → Option Value} {mg mb : Str → Option Value}
    {s : Shared} {L : Addr} {m : Str → Option Value} {Q : Value → Shared → Prop} {E : Value → Shared → Prop} {news : List (Addr × Obj)}
    (B : Below A₀ base outer h₀) (F : Fr h₀ L s.heap m) (X : (hd.heap_39 w.params).In h₀) (T : Top V1 L1 mean mg mb h₀) (N : News h₀ L s.heap news)
    (hf : env.frame = some L) (hke : env.scope.kind = .function) (hd : d ≤ 500)
    (h : ∀ a vs n h' tk news', (∀ p ∈ news, p ∈ news') → (a, listOf vs.toArray n) ∈ news' → PairsAll news' vs wordsL → Fr h₀ L h' m → News h₀ L h' news' → Q (.ref a) { s with heap := h', toks := tk }) :
    wpAny (model P1 w) (AA d u (env :: outer)) (call (.ref 64) [] []) Q E s := by
  have hroom : (AA d u (env :: outer)).depth < recursionLimit := by show d < 1000; omega
  refine wpAny_call ?_
  refine' code_def ?k1 ?k2 ?k3 ?k4 ?k5 ?kA ?kF ?kK ?k6 ?k7 ?k8 ?k9 ?kB ?_ ?c2 ?c3 ?c4 ?c5
  (case kA => exact rfl); (case kF => exact hf); (case kK => exact hke); (case k1 => exact B); (case k2 => exact F); (case k3 => exact X); (case k4 => exact N); (case k5 => exact T); (case k6 => k_is); (case k7 => k_is); (case k8 => exact hroom)
  case k9 => exact BindsTo.of_eq rfl
  case c5 => decide
  case kB => exact locs rfl
  (case c2 => exact rfl); (case c3 => exact rfl); (case c4 => exact rfl)
  intro g' L' h' FG' F' N' B' X' T'
  (try dsimp only)
  (try k_lift B')
  (try k_fold)
  k_steps
  all_goals refine h _ _ _ _ _ _ ?_ (.head _) ?_ (by assumption) (by assumption)
  all_goals first
    | (intro p hp; repeat (first | exact hp | refine List.Mem.tail _ ?_))
    | (unfold wordsL; repeat (first | exact PairsAll.nil | refine PairsAll.cons (by k_mem) ?_))
theorem blanks_spec {w : World} {A₀ : Around} {base h₀ : Heap} {outer : List Env} {env : Env} {d u : Nat} {mean : ExcName → Option Value} {mg mb : Str → Option Value}
    {s : Shared} {L : Addr} {m : Str → Option Value} {Q : Value → Shared → Prop} {E : Value → Shared → Prop} {news : List (Addr × Obj)}
    (B : Below A₀ base outer h₀) (F : Fr h₀ L s.heap m) (X : (hd.heap_39 w.params).In h₀) (T : Top V1 L1 mean mg mb h₀) (N : News h₀ L s.heap news)
    (hf : env.frame = some L) (hke : env.scope.kind = .function) (hd : d ≤ 500)
    (h : ∀ a vs n h' tk news', (∀ p ∈ news, p ∈ news') → (a, listOf vs.toArray n) ∈ news' → PairsAll news' vs blanksL → Fr h₀ L h' m → News h₀ L h' news' → Q (.ref a) { s with heap := h', toks := tk }) :
    wpAny (model P1 w) (AA d u (env :: outer)) (call (.ref 71) [] []) Q E s := by
  have hroom : (AA d u (env :: outer)).depth < recursionLimit := by show d < 1000; omega
  refine wpAny_call ?_
  refine' code_def ?k1 ?k2 ?k3 ?k4 ?k5 ?kA ?kF ?kK ?k6 ?k7 ?k8 ?k9 ?kB ?_ ?c2 ?c3 ?c4 ?c5
  (case kA => exact rfl); (case kF => exact hf); (case kK => exact hke); (case k1 => exact B); (case k2 => exact F); (case k3 => exact X); (case k4 => exact N); (case k5 => exact T); (case k6 => k_is); (case k7 => k_is); (case k8 => exact hroom)
  case k9 => exact BindsTo.of_eq rfl
  case c5 => decide
  case kB => exact locs rfl
  (case c2 => exact rfl); (case c3 => exact rfl); (case c4 => exact rfl)
  intro g' L' h' FG' F' N' B' X' T'
  (try dsimp only)
  (try k_lift B')
  (try k_fold)
  k_steps
  all_goals refine h _ _ _ _ _ _ ?_ (.head _) ?_ (by assumption) (by assumption)
  all_goals first
    | (intro p hp; repeat (first | exact hp | refine List.Mem.tail _ ?_))
    | (unfold blanksL; repeat (first | exact PairsAll.nil | refine PairsAll.cons (by k_mem) ?_))
theorem margins_spec {w : World} {A₀ : Around} {base h₀ : Heap} {outer : List Env} {env : Env} {d u : Nat} {mean : ExcName → Option Value} {mg mb : Str → Option Value}
    {s : Shared} {L : Addr} {m : Str → Option Value} {Q : Value → Shared → Prop} {E : Value → Shared → Prop} {news : List (Addr × Obj)}
    (B : Below A₀ base outer h₀) (F : Fr h₀ L s.heap m) (X : (hd.heap_39 w.params).In h₀) (T : Top V1 L1 mean mg mb h₀) (N : News h₀ L s.heap news)
    (hf : env.frame = some L) (hke : env.scope.kind = .function) (hd : d ≤ 500)
    (h : ∀ a vs n h' tk news', (∀ p ∈ news, p ∈ news') → (a, listOf vs.toArray n) ∈ news' → PairsAll news' vs marginsL → Fr h₀ L h' m → News h₀ L h' news' → Q (.ref a) { s with heap := h', toks := tk }) :
    wpAny (model P1 w) (AA d u (env :: outer)) (call (.ref 78) [] []) Q E s := by
  have hroom : (AA d u (env :: outer)).depth < recursionLimit := by show d < 1000; omega
  refine wpAny_call ?_
  refine' code_def ?k1 ?k2 ?k3 ?k4 ?k5 ?kA ?kF ?kK ?k6 ?k7 ?k8 ?k9 ?kB ?_ ?c2 ?c3 ?c4 ?c5
  (case kA => exact rfl); (case kF => exact hf); (case kK => exact hke); (case k1 => exact B); (case k2 => exact F); (case k3 => exact X); (case k4 => exact N); (case k5 => exact T); (case k6 => k_is); (case k7 => k_is); (case k8 => exact hroom)
  case k9 => exact BindsTo.of_eq rfl
  case c5 => decide
  case kB => exact locs rfl
  (case c2 => exact rfl); (case c3 => exact rfl); (case c4 => exact rfl)
  intro g' L' h' FG' F' N' B' X' T'
  (try dsimp only)
  (try k_lift B')
  (try k_fold)
  k_steps
  all_goals refine h _ _ _ _ _ _ ?_ (.head _) ?_ (by assumption) (by assumption)
  all_goals first
    | (intro p hp; repeat (first | exact hp | refine List.Mem.tail _ ?_))
    | (unfold marginsL; repeat (first | exact PairsAll.nil | refine PairsAll.cons (by k_mem) ?_))
end Mine
namespace Mine
section
variable {prog : Program} {w : World} {A : Around} {E : Value → Shared → Prop} {s : Shared} {env : Env} {h₀ : Heap} {x : Str} {body : List Stmt} {Q : Flow → Shared → Prop}
theorem range_loop {r : Addr} {b : Int} {t u v : Tok} {m₀ : Str → Option Value} {news : List (Addr × Obj)} (J : Nat → (Str → Option Value) → List (Addr × Obj) → Prop)
    (hh : A.handled = none) (hr : IsRange s.heap r 0 b 1 t u v) (h0 : 0 ≤ b) (h1 : b ≤ 1000) (F : Fr h₀ env.locals s.heap m₀) (N : News h₀ env.locals s.heap news) (hj : J 0 m₀ news)
    (turn : ∀ (i : Nat) t m₁ nx h tk own, (i : Int) < b → OwnOff own (nx.map (·.1)) → J i m₁ nx → Fr h₀ env.locals h (fun y => if y = x then some (.int (i : Int) t) else m₁ y) → News h₀ env.locals h (nx ++ own) →
      wpAny (model prog w) A (execs body env) (InvPostG h₀ env.locals (J (i + 1)) own { s with heap := h, toks := tk } Q) E { s with heap := h, toks := tk })
    (done : ∀ m₁ nx h tk, J b.toNat m₁ nx → Fr h₀ env.locals h m₁ → News h₀ env.locals h nx → Q .next { s with heap := h, toks := tk }) :
    wpAny (model prog w) A (pyIter (.ref r)) (fun it s₂ => LoopAtV prog w A h₀ env x body Q E it s₂) E s := by
  have hsz : Builtin.Range.rangeSize 0 b 1 = ((b.toNat : Nat) : Int) := by rw [rangeSize_nat, Int.sub_zero]
  refine wpAny_pyIter_range hr (small_one (by omega) (by omega) (by omega) (by omega)) ?_
  have up : ∀ c o, s.heap.get? c = some o → (s.heap.push { cls := .type "range_iterator", data := .fields #[rawInt 0, rawInt (Builtin.Range.rangeSize 0 b 1), rawInt 1] }).get? c = some o := fun _ _ e => Heap.get?_push_of_some _ e
  refine kdr_loop J (LCg.range_walks (prog := prog) (w := w) (I := s.heap.objs.size) hh 0 b.toNat) (fun _ q => q) (fun _ q => q) ?_ ?_ ?_ ?_ ?_ (F.keeps up) (fun p hp => ⟨up _ _ (N p hp).1, (N p hp).2⟩) hj ?_ ?_
  · intro i h hi c hc
    rw [List.mem_singleton.mp hc]
    exact ⟨_, hi⟩
  · intro hm
    exact Nat.ne_of_lt F.ns.lt (List.mem_singleton.mp hm)
  · intro c hc
    rw [List.mem_singleton.mp hc]
    exact next_is_new F
  · intro p hp hI
    exact Nat.ne_of_lt (Heap.lt_size (N p hp).1) (List.mem_singleton.mp hI)
  · show IsRangeIter _ _ _ _ _
    rw [hsz]
    simpa using Heap.get?_push_size _ rfl
  · rintro i v m₁ nx h tk own hi ⟨tv, rfl⟩ hoff hJ F₁ N₁
    rw [Int.zero_add] at F₁
    exact turn i tv m₁ nx h tk own (by omega) hoff hJ F₁ N₁
  · intro m₁ nx h tk hJ F₁ N₁
    exact done m₁ nx h tk hJ F₁ N₁
end
end Mine
namespace Mine
theorem modeB1 : True := by
  w_top off
  trivial
theorem fillB (w : World) (h : Heap) : (hd.heap_39 w.params).In h → PySem.Challenge.rw_et5025_01 = PySem.Challenge.rw_et5025_01 := by
  k_fill
  exact fun _ => rfl
def szO (o : Obj) : Nat := match o.data with
  | .seq xs _ => xs.size
  | _ => 1000
theorem ne_of_sz {h₀ h : Heap} {L : Addr} {l : List (Addr × Obj)} (N : News h₀ L h l) {a b : Addr} {o o' : Obj} (h1 : (a, o) ∈ l) (h2 : (b, o') ∈ l) (hz : szO o ≠ szO o') : @Ne Nat a b := fun e => by
  have e' : a = b := e
  subst e'
  exact hz (congrArg szO (news_fun N h1 h2))
theorem szO_list (vs : List Value) (n : Nat) : szO (listOf vs.toArray n) = vs.length := by
  show vs.toArray.size = _; exact List.size_toArray ..
theorem norm2 {h₀ h : Heap} {L : Addr} {l : List (Addr × Obj)} {st R : Addr} {o oR : Obj} (N : News h₀ L h l) (hst : (st, o) ∈ l) (hR : (R, oR) ∈ l) :
    ∃ tl, News h₀ L h ((st, o) :: (R, oR) :: tl) ∧ (∀ p ∈ tl, p.1 ≠ st) ∧ (∀ p ∈ tl, p.1 ≠ R) ∧ (∀ p ∈ l, @Ne Nat p.1 st → @Ne Nat p.1 R → p ∈ tl) := by
  refine ⟨l.filter fun p => decide (p.1 ≠ st) && decide (p.1 ≠ R), news_sub N fun p hp => ?_, fun p hp => ?_, fun p hp => ?_, fun p hp h1 h2 => ?_⟩
  · rcases List.mem_cons.mp hp with rfl | hp
    · exact hst
    · rcases List.mem_cons.mp hp with rfl | hp
      · exact hR
      · exact (List.mem_filter.mp hp).1
  · have := (List.mem_filter.mp hp).2; simp only [Bool.and_eq_true, decide_eq_true_eq] at this; exact this.1
  · have := (List.mem_filter.mp hp).2; simp only [Bool.and_eq_true, decide_eq_true_eq] at this; exact this.2
  · refine List.mem_filter.mpr ⟨hp, ?_⟩
    simp only [Bool.and_eq_true, decide_eq_true_eq]
    exact ⟨h1, h2⟩
structure BuildF (st sc R P Em Mg : Addr) (vs pv ev mv : List Value) (nn np ne nm : Nat) (tl : List (Addr × Obj)) : Prop where
  offS : ∀ p ∈ tl, p.1 ≠ st
  offR : ∀ p ∈ tl, p.1 ≠ R
  sc : (sc, listOf vs.toArray nn) ∈ tl
  p : (P, listOf pv.toArray np) ∈ tl
  pa : PairsAll tl pv wordsL
  e : (Em, listOf ev.toArray ne) ∈ tl
  ea : PairsAll tl ev blanksL
  g : (Mg, listOf mv.toArray nm) ∈ tl
  ga : PairsAll tl mv marginsL
theorem BuildF.mono {st sc R P Em Mg : Addr} {vs pv ev mv : List Value} {nn np ne nm : Nat} {tl tl' : List (Addr × Obj)} (b : BuildF st sc R P Em Mg vs pv ev mv nn np ne nm tl) (hs : ∀ p ∈ tl, p ∈ tl')
    (o1 : ∀ p ∈ tl', p.1 ≠ st) (o2 : ∀ p ∈ tl', p.1 ≠ R) : BuildF st sc R P Em Mg vs pv ev mv nn np ne nm tl' :=
  ⟨o1, o2, hs _ b.sc, hs _ b.p, b.pa.mono fun _ _ _ _ _ q => hs _ q, hs _ b.e, b.ea.mono fun _ _ _ _ _ q => hs _ q, hs _ b.g, b.ga.mono fun _ _ _ _ _ q => hs _ q⟩
theorem buildF_of {h₀ h : Heap} {L : Addr} {l tl : List (Addr × Obj)} {st sc R P Em Mg : Addr} {vs pv ev mv : List Value} {nn np ne nm : Nat} {i a : Int} {ti ta n : Nat} (N : News h₀ L h l) (hst : (st, stO sc i ti a ta n) ∈ l) (hR : (R, listOf #[] 0) ∈ l)
    (hss : @Ne Nat st sc) (hsR : @LT.lt Nat _ sc R) (hs : (sc, listOf vs.toArray nn) ∈ l) (hp : (P, listOf pv.toArray np) ∈ l) (pa : PairsAll l pv wordsL) (he : (Em, listOf ev.toArray ne) ∈ l) (ea : PairsAll l ev blanksL) (hg : (Mg, listOf mv.toArray nm) ∈ l) (ga : PairsAll l mv marginsL)
    (o1 : ∀ p ∈ tl, p.1 ≠ st) (o2 : ∀ p ∈ tl, p.1 ≠ R) (f : ∀ p ∈ l, @Ne Nat p.1 st → @Ne Nat p.1 R → p ∈ tl) : BuildF st sc R P Em Mg vs pv ev mv nn np ne nm tl := by
  have pl : ∀ {X : Addr} {xv : List Value} {nx : Nat} {ps : List (Str × Int)}, (X, listOf xv.toArray nx) ∈ l → PairsAll l xv ps → ps.length ≠ 3 → ps.length ≠ 0 → (X, listOf xv.toArray nx) ∈ tl := fun hX ha h3 h0 =>
    f _ hX (ne_of_sz N hX hst (by rw [szO_list, ha.length]; exact h3)) (ne_of_sz N hX hR (by rw [szO_list, ha.length]; exact h0))
  have pm : ∀ {xv : List Value} {ps : List (Str × Int)}, PairsAll l xv ps → PairsAll tl xv ps := fun ha => ha.mono fun a p t1 t2 n q =>
    f _ q (ne_of_sz N q hst (by show (2 : Nat) ≠ 3; decide)) (ne_of_sz N q hR (by show (2 : Nat) ≠ 0; decide))
  exact ⟨o1, o2, f _ hs (fun q => hss q.symm) (Nat.ne_of_lt hsR), pl hp pa (by decide) (by decide), pm pa, pl he ea (by decide) (by decide), pm ea, pl hg ga (by decide) (by decide), pm ga⟩
/-- what holds between the turns -/
def BuildJ (st sc R P Em Mg : Addr) (vs pv ev mv : List Value) (nn np ne nm n : Nat) (k : Nat) (m : Str → Option Value) (nx : List (Addr × Obj)) : Prop :=
  ∃ (i : Int) (ti : Nat) (a : Int) (ta : Nat) (rv : List Value) (nR : Nat) (rs : List RowD) (tl : List (Addr × Obj)), nx = (st, stO sc i ti a ta n) :: (R, listOf rv.toArray nR) :: tl ∧ BuildF st sc R P Em Mg vs pv ev mv nn np ne nm tl ∧
    0 ≤ i ∧ 0 ≤ a ∧ a < 2147483647 ∧ RowsAll tl rv rs ∧ (∀ r ∈ rs, RowOk r) ∧ rs.length = k ∧
    (∀ p ∈ [(Str.ofString "state", Value.ref st), (Str.ofString "rows", Value.ref R), (Str.ofString "pool", Value.ref P), (Str.ofString "empties", Value.ref Em), (Str.ofString "margins", Value.ref Mg)], m p.1 = some p.2)
theorem fr_names {h₀ h : Heap} {L : Addr} {m : Str → Option Value} (ps : List (Str × Value)) (F : Fr h₀ L h m) (hk : ∀ p ∈ ps, m p.1 = some p.2) : Fr h₀ L h (kstB m ps) := by
  have e : kstB m ps = m := funext fun y => kstB_eq hk fun _ => rfl
  rw [e]; exact F
section
variable {prog : Program} {w : World} {A : Around} {E : Value → Shared → Prop} {s : Shared} {h₀ : Heap} {L X : Addr} {m : Str → Option Value} {news tl : List (Addr × Obj)} {xv : List Value} {ps : List (Str × Int)} {nx : Nat}
theorem pair_sub {value slice : PySem.Expr} {k : Int} {t : Tok} {Q : Value → Shared → Prop} (N : News h₀ L s.heap news) (hm : (X, listOf xv.toArray nx) ∈ news) (hp : PairsAll tl xv ps) (hall : (ps.all fun p => decide (p.1.length ≤ 20)) = true)
    (hl : ps.length ≤ 100) (h0 : 0 ≤ k) (h1 : k < (ps.length : Int)) (h : ∀ a p t1 t2 n, p ∈ ps → p.1.length ≤ 20 → (a, pairO p t1 t2 n) ∈ tl → Q (.ref a) s)
    (hs : subscripted slice false (.ref X) (.int k t) = operate [.ref X, .int k t] (getItem (.ref X) (.int k t)) := by with_unfolding_all rfl) :
    wpAny (model prog w) A (subscriptTail value slice (.ref X) (.int k t)) Q E s := by
  have hk : k.toNat < ps.length := by omega
  obtain ⟨a, t1, t2, n, hv, hin⟩ := hp.get (List.getElem?_eq_getElem hk)
  have hi : s.heap.IsList X xv.toArray := PySem.IsL.isList (n := nx) (N _ hm).1
  have hmem := List.getElem_mem hk
  exact tail_any hi.typeIs slot_list_getitem.lookup (wpAny_getItem_list hi h0 (by omega) (by simpa using hv) (h _ _ _ _ _ hmem (of_decide_eq_true (List.all_eq_true.mp hall _ hmem)) hin)) hs
theorem News.ne_heads {st sc R : Addr} {i a : Int} {ti ta n nR : Nat} {h : Heap} (N : News h₀ L h ((st, stO sc i ti a ta n) :: (R, listOf #[] nR) :: tl)) : @Ne Nat R st :=
  ne_of_sz N (.tail _ (.head _)) (.head _) (by show (0 : Nat) ≠ 3; decide)
theorem add_small {x y : Str} {t u : Tok} {Q : Value → Shared → Prop} (hx : x.length ≤ 100) (hy : y.length ≤ 100) (h : ∀ t' k, Q (.str (x ++ y) t') { s with toks := k }) : wpAny (model prog w) A (binaryOp .Add (.str x t) (.str y u)) Q E s :=
  SB.add h (by rw [sizeLine_eq]; omega)
end
local macro_rules | `(tactic| k_all) => `(tactic| assumption)
local macro_rules | `(tactic| k_mem) => `(tactic| assumption)
local macro_rules | `(tactic| walk_at "call ref") => `(tactic| (k_here; (with_reducible show wpAny _ _ (call (Value.ref 64) _ _) _ _ _); refine' rows_spec ?k2 ?k3 ?k4 ?k5 ?k6 ?k7 ?k8 ?k9 ?_; (case k2 => assumption); (case k3 => k_asm); (case k4 => k_asm); (case k5 => k_asm); (case k6 => k_asm); (case k7 => rfl); (case k8 => rfl); (case k9 => first | omega | (dsimp only; omega)); intro a' vs' n' h' tk' news' hs' hm' hp' F' N'))
local macro_rules | `(tactic| walk_at "call ref") => `(tactic| (k_here; (with_reducible show wpAny _ _ (call (Value.ref 71) _ _) _ _ _); refine' blanks_spec ?k2 ?k3 ?k4 ?k5 ?k6 ?k7 ?k8 ?k9 ?_; (case k2 => assumption); (case k3 => k_asm); (case k4 => k_asm); (case k5 => k_asm); (case k6 => k_asm); (case k7 => rfl); (case k8 => rfl); (case k9 => first | omega | (dsimp only; omega)); intro a' vs' n' h' tk' news' hs' hm' hp' F' N'))
local macro_rules | `(tactic| walk_at "call ref") => `(tactic| (k_here; (with_reducible show wpAny _ _ (call (Value.ref 78) _ _) _ _ _); refine' margins_spec ?k2 ?k3 ?k4 ?k5 ?k6 ?k7 ?k8 ?k9 ?_; (case k2 => assumption); (case k3 => k_asm); (case k4 => k_asm); (case k5 => k_asm); (case k6 => k_asm); (case k7 => rfl); (case k8 => rfl); (case k9 => first | omega | (dsimp only; omega)); intro a' vs' n' h' tk' news' hs' hm' hp' F' N'))
local macro_rules | `(tactic| walk_at "call ref") => `(tactic| (k_here; (with_reducible show wpAny _ _ (call (Value.ref 57) _ _) _ _ _); refine' next_spec ?k2 ?k3 ?k4 ?k5 ?k6 ?k7 ?k8 ?k9 ?u1 ?u2 ?u3 ?u4 ?u5 ?u6 ?u7 ?u8 ?_; (case k2 => assumption); (case k3 => k_asm); (case k4 => k_asm); (case k5 => k_asm); (case k6 => k_asm); (case k7 => rfl); (case k8 => rfl); (case k9 => first | omega | (dsimp only; omega)); (case u1 => k_updF); (case u2 => k_mem); (case u3 => assumption); (case u4 => assumption); (case u5 => assumption); (case u6 => assumption); (case u7 => assumption); (case u8 => first | omega | decide); intro v' tv' i' ti' a' ta' h' tk' c1 c2 c3 c4 c5 F' N'; (try dsimp only at N')))
theorem build_norm {h₀ h : Heap} {L : Addr} {l1 l2 l3 rest : List (Addr × Obj)} {st sc R P Em Mg : Addr} {vs pv ev mv : List Value} {nn np ne nm : Nat} {i a : Int} {ti ta n : Nat} (N : News h₀ L h l3)
    (ga : PairsAll l3 mv marginsL) (ea : PairsAll l2 ev blanksL) (pa : PairsAll l1 pv wordsL) (hg : (Mg, listOf mv.toArray nm) ∈ l3) (he : (Em, listOf ev.toArray ne) ∈ l2) (hp : (P, listOf pv.toArray np) ∈ l1)
    (s3 : ∀ p ∈ l2, p ∈ l3) (s2 : ∀ p ∈ l1, p ∈ l2) (s1 : ∀ p ∈ (R, listOf #[] 0) :: (st, stO sc i ti a ta n) :: (sc, listOf vs.toArray nn) :: rest, p ∈ l1) (hss : @Ne Nat st sc) (hsR : @LT.lt Nat _ sc R) :
    ∃ tl, News h₀ L h ((st, stO sc i ti a ta n) :: (R, listOf #[] 0) :: tl) ∧ BuildF st sc R P Em Mg vs pv ev mv nn np ne nm tl := by
  have t1 : ∀ p ∈ l1, p ∈ l3 := fun p q => s3 _ (s2 _ q)
  have hst : (st, stO sc i ti a ta n) ∈ l3 := t1 _ (s1 _ (.tail _ (.head _)))
  have hR : (R, listOf #[] 0) ∈ l3 := t1 _ (s1 _ (.head _))
  obtain ⟨tl, N', o1, o2, f⟩ := norm2 N hst hR
  exact ⟨tl, N', buildF_of N hst hR hss hsR (t1 _ (s1 _ (.tail _ (.tail _ (.head _))))) (t1 _ hp) (pa.mono fun _ _ _ _ _ q => t1 _ q) (s3 _ he) (ea.mono fun _ _ _ _ _ q => s3 _ q) hg ga o1 o2 f⟩
local macro_rules | `(tactic| walk_at "subscriptTail") => `(tactic| (k_here; (with_reducible show wpAny _ _ (subscriptTail _ _ (Value.ref _) (Value.int _ _)) _ _ _); refine' pair_sub ?k1 ?k2 ?k3 ?k4 ?k5 ?k6 ?k7 ?_ ?k8; (case k1 => k_asm); (case k2 => k_mem); (case k3 => assumption); (case k4 => decide); (case k5 => decide); (case k6 => omega); (case k7 => first | (show _ < ((17 : Nat) : Int); omega) | (show _ < ((6 : Nat) : Int); omega) | (show _ < ((10 : Nat) : Int); omega)); (case k8 => with_unfolding_all rfl); intro a' p' t1' t2' n' hp' hl' hm'))
local macro_rules | `(tactic| walk_at "call type:range") => `(tactic| (k_here; (rename Fr _ _ _ _ => lF'); (rename News _ _ _ _ => lN'); (with_unfolding_all refine' range1_rows lF' lN' ?_); intro h' tk' t1' u1' v1' hR' F' N' hk'; (try clear lF' lN')))
local macro_rules | `(tactic| walk_at "exec For Name Call cons nil") => `(tactic| (k_here; k_dflt ((rename Fr _ _ _ _ => lF'); (rename News _ _ _ _ => lN'); (with_reducible rename PairsAll _ _ marginsL => hga'); (with_reducible rename PairsAll _ _ blanksL => hea'); (with_reducible rename PairsAll _ _ wordsL => hpa'); (have nrm := build_norm lN' hga' hea' hpa' (by assumption) (by assumption) (by assumption) (by assumption) (by assumption) (by assumption) (by assumption) (by omega)); obtain ⟨tl', N', b1'⟩ := nrm; clear lN' hga' hea' hpa'; have o1' := b1'.offS; have o2' := b1'.offR; have m1' := b1'.sc; (have n1' := News.ne_heads N'); (with_unfolding_all refine' For_invVF lF' ?k1 ?k2 ?_); (case k1 => exact rfl); (case k2 => exact rfl))))

abbrev bNames (st R P Em Mg : Addr) : List (Str × Value) := [(Str.ofString "state", Value.ref st), (Str.ofString "rows", Value.ref R), (Str.ofString "pool", Value.ref P), (Str.ofString "empties", Value.ref Em), (Str.ofString "margins", Value.ref Mg)]
theorem allLt_mem {d : Addr} : ∀ {l : List (Addr × Obj)}, AllLt d l → ∀ p ∈ l, @LT.lt Nat _ p.1 d
  | [], _, _, hp => nomatch hp
  | q :: r, h, p, hp => by
    rcases List.mem_cons.mp hp with rfl | hp
    · exact h.1
    · exact allLt_mem h.2 p hp
section
variable {prog : Program} {w : World} {A : Around} {E : Value → Shared → Prop} {s : Shared} {env : Env} {h₀ : Heap} {x : Str} {body : List Stmt} {Q : Flow → Shared → Prop}
theorem build_iter {r : Addr} {b : Int} {t u v : Tok} {m₀ : Str → Option Value} {st sc R P Em Mg : Addr} {vs pv ev mv : List Value} {nn np ne nm n ti ta : Nat} {i a : Int} {tl : List (Addr × Obj)}
    (hh : A.handled = none) (hr : IsRange s.heap r 0 b 1 t u v) (h0 : 1 ≤ b) (h1 : b ≤ 10) (F : Fr h₀ env.locals s.heap m₀) (N : News h₀ env.locals s.heap ((st, stO sc i ti a ta n) :: (R, listOf #[] 0) :: tl))
    (hb : BuildF st sc R P Em Mg vs pv ev mv nn np ne nm tl) (hi : 0 ≤ i) (ha : 0 ≤ a) (ha2 : a < 2147483647) (hk : ∀ p ∈ bNames st R P Em Mg, m₀ p.1 = some p.2)
    (turn : ∀ (k : Nat) (i : Int) ti (a : Int) ta rv nR rs tl own (u : Str → Option Value) (t : Tok) h tk, BuildF st sc R P Em Mg vs pv ev mv nn np ne nm (tl ++ own) → (∀ p ∈ tl ++ own, p.1 ≠ st) → (∀ p ∈ tl ++ own, p.1 ≠ R) → (sc, listOf vs.toArray nn) ∈ tl ++ own → (P, listOf pv.toArray np) ∈ tl ++ own → PairsAll (tl ++ own) pv wordsL → (Em, listOf ev.toArray ne) ∈ tl ++ own → PairsAll (tl ++ own) ev blanksL → (Mg, listOf mv.toArray nm) ∈ tl ++ own → PairsAll (tl ++ own) mv marginsL → OwnOff own (tl.map (·.1)) →
      BuildF st sc R P Em Mg vs pv ev mv nn np ne nm tl → 0 ≤ i → 0 ≤ a → a < 2147483647 → RowsAll tl rv rs → (∀ r ∈ rs, RowOk r) → rs.length = k → @Ne Nat R st → rv.length ≤ 10 →
      Fr h₀ env.locals h (fun y => if y = x then some (.int (k : Int) t) else kstB u (bNames st R P Em Mg) y) → News h₀ env.locals h ((st, stO sc i ti a ta n) :: (R, listOf rv.toArray nR) :: (tl ++ own)) →
      wpAny (model prog w) A (execs body env) (InvPostG h₀ env.locals (BuildJ st sc R P Em Mg vs pv ev mv nn np ne nm n (k + 1)) own { s with heap := h, toks := tk } Q) E { s with heap := h, toks := tk })
    (done : ∀ (i : Int) ti (a : Int) ta rv nR rs tl (u : Str → Option Value) h tk, BuildF st sc R P Em Mg vs pv ev mv nn np ne nm tl → 0 ≤ i → 0 ≤ a → a < 2147483647 → RowsAll tl rv rs → (∀ r ∈ rs, RowOk r) → 1 ≤ rs.length → rs.length ≤ 10 → @Ne Nat R st →
      Fr h₀ env.locals h (kstB u (bNames st R P Em Mg)) → News h₀ env.locals h ((st, stO sc i ti a ta n) :: (R, listOf rv.toArray nR) :: tl) → Q .next { s with heap := h, toks := tk }) :
    wpAny (model prog w) A (pyIter (.ref r)) (fun it s₂ => LoopAtV prog w A h₀ env x body Q E it s₂) E s := by
  have hne : @Ne Nat R st := ne_of_sz N (.tail _ (.head _)) (.head _) (by show (0 : Nat) ≠ 3; decide)
  refine range_loop (BuildJ st sc R P Em Mg vs pv ev mv nn np ne nm n) hh hr (by omega) (by omega) F N ⟨i, ti, a, ta, [], 0, [], tl, rfl, hb, hi, ha, ha2, .nil, (fun _ q => nomatch q), rfl, hk⟩ ?_ ?_
  · rintro k t m₁ nx h tk own hkb hoff ⟨i, ti, a, ta, rv, nR, rs, tl, rfl, hb, hi, ha, ha2, hra, hro, hrl, hk⟩ F₁ N₁
    have hS : ∀ p ∈ own, p.1 ≠ st := fun p hp => hoff p hp st (.head _)
    have hR : ∀ p ∈ own, p.1 ≠ R := fun p hp => hoff p hp R (.tail _ (.head _))
    have hT : OwnOff own (tl.map (·.1)) := fun p hp c hc => hoff p hp c (.tail _ (.tail _ hc))
    have oS : ∀ p ∈ tl ++ own, p.1 ≠ st := fun p hp => (List.mem_append.mp hp).elim (hb.offS p) (hS p)
    have oR : ∀ p ∈ tl ++ own, p.1 ≠ R := fun p hp => (List.mem_append.mp hp).elim (hb.offR p) (hR p)
    have hb' := hb.mono (tl' := tl ++ own) (fun p hp => List.mem_append_left _ hp) oS oR
    have em : (fun y => if y = x then some (Value.int (k : Int) t) else m₁ y) = fun y => if y = x then some (Value.int (k : Int) t) else kstB m₁ (bNames st R P Em Mg) y := by
      funext y
      rw [kstB_eq hk fun _ => rfl]
    rw [em] at F₁
    exact turn k i ti a ta rv nR rs tl own m₁ t h tk hb' oS oR hb'.sc hb'.p hb'.pa hb'.e hb'.ea hb'.g hb'.ga hT hb hi ha ha2 hra hro hrl hne (by rw [hra.length, hrl]; omega) F₁ N₁
  · rintro m₁ nx h tk ⟨i, ti, a, ta, rv, nR, rs, tl, rfl, hb, hi, ha, ha2, hra, hro, hrl, hk⟩ F₁ N₁
    exact done i ti a ta rv nR rs tl m₁ h tk hb hi ha ha2 hra hro (by omega) (by omega) hne (fr_names _ F₁ hk) N₁
end
theorem build_end {h₀ h' : Heap} {L x : Addr} {st sc R P Em Mg : Addr} {vs pv ev mv : List Value} {nn np ne nm n ti ta : Nat} {i a : Int} {tl own : List (Addr × Obj)} {rv : List Value} {nR' k t1 t2 t3 t4 nx tk : Nat} {rs : List RowD} {r : RowD} {m' : Str → Option Value} {s₁ : Shared}
    (F : Fr h₀ L h' m') (N : News h₀ L h' ((x, rowO r t1 t2 t3 t4 nx) :: (st, stO sc i ti a ta n) :: (R, listOf (rv ++ [Value.ref x]).toArray nR') :: (tl ++ own))) (hT : OwnOff own (tl.map (·.1)))
    (hb' : BuildF st sc R P Em Mg vs pv ev mv nn np ne nm (tl ++ own)) (hb : BuildF st sc R P Em Mg vs pv ev mv nn np ne nm tl) (hra : RowsAll tl rv rs) (hro : ∀ r ∈ rs, RowOk r) (hrl : rs.length = k) (hr : RowOk r) (hlt : @LT.lt Nat _ st x ∧ @LT.lt Nat _ R x ∧ AllLt x (tl ++ own))
    (hi : 0 ≤ i) (ha : 0 ≤ a) (ha2 : a < 2147483647) (hk : ∀ p ∈ bNames st R P Em Mg, m' p.1 = some p.2) :
    InvEndG h₀ L (BuildJ st sc R P Em Mg vs pv ev mv nn np ne nm n (k + 1)) own s₁ { s₁ with heap := h', toks := tk } := by
  obtain ⟨l1, l2, l3⟩ := hlt
  have hx := allLt_mem l3
  refine ⟨h', tk, m', _, (st, stO sc i ti a ta n) :: (R, listOf (rv ++ [Value.ref x]).toArray nR') :: (x, rowO r t1 t2 t3 t4 nx) :: tl, rfl, F, N, fun p hp => ?_, fun p hp => ?_, fun p hp c hc => ?_, i, ti, a, ta, rv ++ [Value.ref x], nR', rs ++ [r], (x, rowO r t1 t2 t3 t4 nx) :: tl, rfl, ?_, hi, ha, ha2, ?_, ?_, ?_, hk⟩
  · rcases List.mem_cons.mp hp with rfl | hp
    · exact .tail _ (.head _)
    · rcases List.mem_cons.mp hp with rfl | hp
      · exact .tail _ (.tail _ (.head _))
      · rcases List.mem_cons.mp hp with rfl | hp
        · exact .head _
        · exact .tail _ (.tail _ (.tail _ (List.mem_append_left _ hp)))
  · exact .tail _ (.tail _ (.tail _ (List.mem_append_right _ hp)))
  · rcases List.mem_cons.mp hc with rfl | hc
    · exact hb'.offS p (List.mem_append_right _ hp)
    · rcases List.mem_cons.mp hc with rfl | hc
      · exact hb'.offR p (List.mem_append_right _ hp)
      · rcases List.mem_cons.mp hc with rfl | hc
        · exact Nat.ne_of_lt (hx p (List.mem_append_right _ hp))
        · exact hT p hp c hc
  · refine hb.mono (fun p hp => .tail _ hp) (fun p hp => ?_) fun p hp => ?_
    · rcases List.mem_cons.mp hp with rfl | hp
      · exact Nat.ne_of_gt l1
      · exact hb.offS p hp
    · rcases List.mem_cons.mp hp with rfl | hp
      · exact Nat.ne_of_gt l2
      · exact hb.offR p hp
  · exact (hra.mono fun _ _ _ _ _ _ _ q => .tail _ q).append (.cons (.head _) .nil)
  · intro q hq
    rcases List.mem_append.mp hq with hq | hq
    · exact hro q hq
    · rw [List.mem_singleton.mp hq]; exact hr
  · rw [List.length_append, hrl]; rfl
local macro_rules | `(tactic| walk_at "pyIter ref") => `(tactic| (k_here; (with_reducible show wpAny _ _ (pyIter (Value.ref _)) (fun it s₂ => LoopAtV _ _ _ _ _ _ _ _ _ it s₂) _ _); k_dflt ((rename Fr _ _ _ _ => lF'); (rename News _ _ _ _ => lN'); (rename IsRange _ _ _ _ _ _ _ _ => lR'); (rename BuildF _ _ _ _ _ _ _ _ _ _ _ _ _ _ _ => lB'); (with_unfolding_all refine' build_iter (by rfl) lR' ?i0 ?i1 lF' lN' lB' (by assumption) (by assumption) (by assumption) ?ik ?_ ?_); (case i0 => omega); (case i1 => omega); (case ik => exact List.forall_mem_cons.mpr ⟨rfl, List.forall_mem_cons.mpr ⟨rfl, List.forall_mem_cons.mpr ⟨rfl, List.forall_mem_cons.mpr ⟨rfl, List.forall_mem_cons.mpr ⟨rfl, List.forall_mem_nil _⟩⟩⟩⟩⟩); (all_goals (try clear lF' lN' lB' lR')))))
local macro_rules | `(tactic| walk_at "InvPostG") => `(tactic| (dsimp only [InvPostG]))
theorem blank_ok {p : Str × Int} (h : p ∈ blanksL) : RowOk (blankRow p) := .inl ⟨p, h, rfl⟩
theorem word_ok {mg wd : Str × Int} (h : mg ∈ marginsL) (h2 : wd ∈ wordsL) : RowOk (wordRow mg wd) := .inr ⟨mg, h, wd, h2, rfl⟩
local macro_rules | `(tactic| walk_at "InvEndG") => `(tactic| (k_dflt ((rename News _ _ _ _ => nE'); (try simp only [List.push_toArray] at nE'); first
  | (refine build_end (r := blankRow _) (by assumption) nE' (by assumption) (by assumption) (by assumption) (by assumption) (by assumption) (by assumption) (blank_ok (by assumption)) (by assumption) (by assumption) (by assumption) (by assumption) ?ik; (case ik => exact List.forall_mem_cons.mpr ⟨rfl, List.forall_mem_cons.mpr ⟨rfl, List.forall_mem_cons.mpr ⟨rfl, List.forall_mem_cons.mpr ⟨rfl, List.forall_mem_cons.mpr ⟨rfl, List.forall_mem_nil _⟩⟩⟩⟩⟩))
  | (refine build_end (r := wordRow _ _) (by assumption) nE' (by assumption) (by assumption) (by assumption) (by assumption) (by assumption) (by assumption) (word_ok (by assumption) (by assumption)) (by assumption) (by assumption) (by assumption) (by assumption) ?ik; (case ik => exact List.forall_mem_cons.mpr ⟨rfl, List.forall_mem_cons.mpr ⟨rfl, List.forall_mem_cons.mpr ⟨rfl, List.forall_mem_cons.mpr ⟨rfl, List.forall_mem_cons.mpr ⟨rfl, List.forall_mem_nil _⟩⟩⟩⟩⟩)))))
theorem build_spec {w : World} {A₀ : Around} {base h₀ : Heap} {outer : List Env} {env : Env} {d u : Nat} {mean : ExcName → Option Value} {mg mb : Str → Option Value}
    {s : Shared} {L : Addr} {m : Str → Option Value} {Q : Value → Shared → Prop} {E : Value → Shared → Prop} {rest : List (Addr × Obj)}
    {st sc : Addr} {i a : Int} {ti ta n nn : Nat} {vs : List Value} {ns : List Int}
    (B : Below A₀ base outer h₀) (F : Fr h₀ L s.heap m) (X : (hd.heap_39 w.params).In h₀) (T : Top V1 L1 mean mg mb h₀) (N : News h₀ L s.heap ((st, stO sc i ti a ta n) :: (sc, listOf vs.toArray nn) :: rest))
    (hf : env.frame = some L) (hke : env.scope.kind = .function) (hd : d ≤ 490) (hst : @Ne Nat st sc) (hoff : ∀ p ∈ rest, p.1 ≠ st)
    (hI : IntsAre vs ns) (hlen : ns.length ≤ 63) (hi : 0 ≤ i) (ha : 0 ≤ a) (ha2 : a < 2147483647)
    (h : ∀ R rv nR rs i' ti' a' ta' tl h' tk, 1 ≤ rs.length → rs.length ≤ 10 → (∀ r ∈ rs, RowOk r) → 0 ≤ i' → 0 ≤ a' → a' < 2147483647 → RowsAll tl rv rs → (∀ p ∈ tl, p.1 ≠ st) → (∀ p ∈ tl, p.1 ≠ R) → @Ne Nat R st → (sc, listOf vs.toArray nn) ∈ tl →
      Fr h₀ L h' m → News h₀ L h' ((st, stO sc i' ti' a' ta' n) :: (R, listOf rv.toArray nR) :: tl) → Q (.ref R) { s with heap := h', toks := tk }) :
    wpAny (model P1 w) (AA d u (env :: outer)) (call (.ref 85) [.ref st] []) Q E s := by
  have hroom : (AA d u (env :: outer)).depth < recursionLimit := by show d < 1000; omega
  refine wpAny_call ?_
  refine' code_def ?k1 ?k2 ?k3 ?k4 ?k5 ?kA ?kF ?kK ?k6 ?k7 ?k8 ?k9 ?kB ?_ ?c2 ?c3 ?c4 ?c5
  (case kA => exact rfl); (case kF => exact hf); (case kK => exact hke); (case k1 => exact B); (case k2 => exact F); (case k3 => exact X); (case k4 => exact N); (case k5 => exact T); (case k6 => k_is); (case k7 => k_is); (case k8 => exact hroom)
  case k9 => exact BindsTo.of_eq rfl
  case c5 => decide
  case kB => exact locs rfl
  (case c2 => exact rfl); (case c3 => exact rfl); (case c4 => exact rfl)
  intro g' L' h' FG' F' N' B' X' T'
  (try dsimp only)
  (try k_lift B')
  (try k_fold)
  k_steps
  all_goals refine h _ _ _ _ _ _ _ _ _ _ _ ?_ ?_ ?_ ?_ ?_ ?_ (by assumption) ?_ ?_ ?_ ?_ (by assumption) (by assumption)
  all_goals first | assumption | exact BuildF.offS (by assumption) | exact BuildF.offR (by assumption) | exact BuildF.sc (by assumption)
end Mine
namespace Mine
section
variable {prog : Program} {w : World} {A : Around} {E : Value → Shared → Prop} {Q : Flow → Shared → Prop} {s : Shared} {env : Env} {h₀ : Heap} {x y : Str} {scope : Scope} {cl : List (Str × Addr)} {ifs : List PySem.Expr} {elt : PySem.Expr} {p : Value → Bool} {F : Value → Value → Prop} {m : Str → Option Value} {news : List (Addr × Obj)}

/-- what the comprehension's rule asks behind its iterator -/
abbrev CompAsk (prog : Program) (w : World) (A : Around) (env : Env) (scope : Scope) (cl : List (Str × Addr)) (x y : Str) (ifs : List PySem.Expr) (elt : PySem.Expr) (p : Value → Bool) (F : Value → Value → Prop) (Q : Flow → Shared → Prop) (it : Value) (s₂ : Shared) : Prop :=
  ∃ I fp wr n P St m, it = .ref I ∧ Walks prog w A I fp wr n P St ∧ n ≤ sizeLine ∧ St 0 s₂.heap ∧ (∀ b ∈ fp, b < s₂.heap.objs.size) ∧
      env.locals ∉ wr ∧ s₂.heap.Ns env.locals m ∧ QuietOnC prog w A env scope cl x ifs elt wr P p F s₂ ∧
      (∀ D h' tk ys (vs : List Value), s₂.heap.get? D = none → h'.IsList D ys → h'.PlainList D ys → vs.length = n → (∀ j v, vs[j]? = some v → P j v) → Paired F (vs.filter p) ys.toList →
        h'.Ns env.locals (fun z => if z = y then some (.ref D) else m z) → (∀ b o, b ≠ env.locals → b ∉ wr → s₂.heap.get? b = some o → h'.get? b = some o) → Q .next { s₂ with heap := h', toks := tk })

theorem comp_after {I : Addr} {g h' : Heap} {D : Addr} {ys : Array Value} (up : ∀ b o, s.heap.get? b = some o → g.get? b = some o) (hI : s.heap.get? I = none) (Fs : Fr h₀ env.locals s.heap m) (N : News h₀ env.locals s.heap news)
    (hD : g.get? D = none) (hpl : h'.PlainList D ys) (hns : h'.Ns env.locals (fun z => if z = y then some (.ref D) else m z)) (hk : ∀ b o, b ≠ env.locals → b ∉ [I] → g.get? b = some o → h'.get? b = some o) :
    ∃ nD, Fr h₀ env.locals h' (fun z => if z = y then some (.ref D) else m z) ∧ News h₀ env.locals h' ((D, listOf ys nD) :: news) ∧ ∀ p ∈ news, p.1 ≠ D := by
  obtain ⟨nD, hDl⟩ := hpl
  have hL₀ : h₀.get? env.locals = none := Heap.get?_none_of_le Fs.above
  have nI : ∀ b o, s.heap.get? b = some o → b ∉ [I] := fun b o e q => by
    rw [List.mem_singleton.mp q, hI] at e; cases e
  refine ⟨nD, ⟨hns, fun b o e => ?_, Fs.above⟩, fun q hq => ?_, fun q hq e => ?_⟩
  · have e1 := Fs.keep b o e
    exact hk b o (fun q => by rw [q, hL₀] at e; cases e) (nI b o e1) (up b o e1)
  · rcases List.mem_cons.mp hq with rfl | hq
    · refine ⟨hDl, fun e => ?_, ?_⟩
      · obtain ⟨o, _, _, ho, _⟩ := Fs.ns
        have := up _ _ ho
        rw [← show D = env.locals from e, hD] at this; cases this
      · cases hz : h₀.get? D with
        | none => rfl
        | some o => have := up _ _ (Fs.keep _ _ hz); rw [hD] at this; cases this
    · have n1 := N q hq
      exact ⟨hk _ _ n1.2.1 (nI _ _ n1.1) (up _ _ n1.1), n1.2⟩
  · have n1 := up _ _ (N q hq).1
    rw [e, hD] at n1; cases n1

theorem comp_range {r : Addr} {b : Int} {t u v : Tok} (hh : A.handled = none) (hr : IsRange s.heap r 0 b 1 t u v) (h0 : 0 ≤ b) (h1 : b ≤ 100) (Fs : Fr h₀ env.locals s.heap m) (N : News h₀ env.locals s.heap news)
    (hq : ∀ I g, (∀ b o, s.heap.get? b = some o → g.get? b = some o) → s.heap.get? I = none → QuietOnC prog w A env scope cl x ifs elt [I] (fun i v => i < b.toNat ∧ ∃ t, v = Value.int (i : Int) t) p F { s with heap := g })
    (hd : ∀ D nD h' tk ys (vs : List Value), vs.length = b.toNat → (∀ j v, vs[j]? = some v → ∃ t, v = Value.int ((j : Nat) : Int) t) → Paired F (vs.filter p) ys.toList → Fr h₀ env.locals h' (fun z => if z = y then some (.ref D) else m z) →
      News h₀ env.locals h' ((D, listOf ys nD) :: news) → (∀ p ∈ news, p.1 ≠ D) → Q .next { s with heap := h', toks := tk }) :
    wpAny (model prog w) A (pyIter (.ref r)) (CompAsk prog w A env scope cl x y ifs elt p F Q) E s := by
  have hsz : Builtin.Range.rangeSize 0 b 1 = ((b.toNat : Nat) : Int) := by rw [rangeSize_nat, Int.sub_zero]
  refine wpAny_pyIter_range hr (small_one (by omega) (by omega) (by omega) (by omega)) ?_
  have up : ∀ c o, s.heap.get? c = some o → (s.heap.push { cls := .type "range_iterator", data := .fields #[rawInt 0, rawInt (Builtin.Range.rangeSize 0 b 1), rawInt 1] }).get? c = some o := fun _ _ e => Heap.get?_push_of_some _ e
  have hI : s.heap.get? s.heap.objs.size = none := Heap.get?_none_of_le (Nat.le_refl _)
  have W : Walks prog w A s.heap.objs.size [s.heap.objs.size] [s.heap.objs.size] b.toNat (fun i v => i < b.toNat ∧ ∃ t, v = Value.int (i : Int) t) (fun i h => IsRangeIter h s.heap.objs.size (0 + (i : Nat) * 1) ((b.toNat : Int) - (i : Nat)) 1) :=
    let W0 := LCg.range_walks (prog := prog) (w := w) (I := s.heap.objs.size) hh 0 b.toNat
    { sub := W0.sub, frame := W0.frame, done := W0.done, self := W0.self,
      item := fun i s Q E hi st hQ => W0.item i s Q E hi st fun v h' tk hP => hQ v h' tk ⟨hi, by obtain ⟨t, rfl⟩ := hP; exact ⟨t, by rw [Int.zero_add]⟩⟩ }
  refine ⟨_, _, _, _, _, _, m, rfl, W, by rw [sizeLine_eq]; omega, ?_, ?_, ?_, (Fs.keeps up).ns, hq _ _ up hI, ?_⟩
  · show IsRangeIter _ _ _ _ _
    rw [hsz]
    simpa using Heap.get?_push_size _ rfl
  · intro c hc
    rw [List.mem_singleton.mp hc]
    show _ < (s.heap.push _).objs.size
    rw [Heap.size_push]; exact Nat.lt_succ_self _
  · intro hm
    exact Nat.ne_of_lt Fs.ns.lt (List.mem_singleton.mp hm)
  · intro D h' tk ys vs hD _ hpl hlen hP hF hns hk
    obtain ⟨nD, F', N', hoff⟩ := comp_after up hI Fs N hD hpl hns hk
    exact hd D nD h' tk ys vs hlen (fun j v e => (hP j v e).2) hF F' N' hoff

theorem comp_led {l : Addr} {its : List Value} {nl : Nat} (hh : A.handled = none) (hl : (l, listOf its.toArray nl) ∈ news) (hz : its.length ≤ 100) (Fs : Fr h₀ env.locals s.heap m) (N : News h₀ env.locals s.heap news)
    (hq : ∀ I g, (∀ b o, s.heap.get? b = some o → g.get? b = some o) → s.heap.get? I = none → QuietOnC prog w A env scope cl x ifs elt [I] (fun i v => its[i]? = some v) p F { s with heap := g })
    (hd : ∀ D nD h' tk ys, Paired F (its.filter p) ys.toList → Fr h₀ env.locals h' (fun z => if z = y then some (.ref D) else m z) →
      News h₀ env.locals h' ((D, listOf ys nD) :: news) → (∀ p ∈ news, p.1 ≠ D) → Q .next { s with heap := h', toks := tk }) :
    wpAny (model prog w) A (pyIter (.ref l)) (CompAsk prog w A env scope cl x y ifs elt p F Q) E s := by
  have hol : s.heap.get? l = some (listOf its.toArray nl) := (N _ hl).1
  have hls : s.heap.IsList l its.toArray := PySem.IsL.isList (n := nl) hol
  have hlt : l < s.heap.objs.size := Heap.lt_size hol
  refine wpAny_pyIter_list hls ?_
  have up : ∀ c o, s.heap.get? c = some o → (s.heap.push { cls := .type "list_iterator", data := .fields #[.ref l, .int 0 0] }).get? c = some o := fun _ _ e => Heap.get?_push_of_some _ e
  have hI : s.heap.get? s.heap.objs.size = none := Heap.get?_none_of_le (Nat.le_refl _)
  have W := Walks.list (prog := prog) (w := w) hh s.heap.objs.size l (Nat.ne_of_lt hlt) its.toArray
  have hP : (fun (i : Nat) v => its.toArray[i]? = some v) = fun (i : Nat) v => its[i]? = some v := by funext i v; simp
  rw [hP] at W
  have hzz : its.toArray.size = its.length := List.size_toArray ..
  rw [hzz] at W
  refine ⟨_, _, _, _, _, _, m, rfl, W, by rw [sizeLine_eq]; omega, ⟨⟨_, Heap.get?_push_size _ rfl, rfl, rfl⟩, hls.at fun o e => up _ _ e⟩, ?_, ?_, (Fs.keeps up).ns, hq _ _ up hI, ?_⟩
  · intro c hc
    show _ < (s.heap.push _).objs.size
    rw [Heap.size_push]
    rcases List.mem_cons.mp hc with rfl | hc
    · exact Nat.lt_succ_self _
    · rw [List.mem_singleton.mp hc]; exact Nat.lt_succ_of_lt hlt
  · intro hm
    exact Nat.ne_of_lt Fs.ns.lt (List.mem_singleton.mp hm)
  · intro D h' tk ys vs hD _ hpl hlen hP hF hns hk
    obtain ⟨nD, F', N', hoff⟩ := comp_after up hI Fs N hD hpl hns hk
    have e : vs = its := by
      apply List.ext_getElem? 
      intro j
      by_cases hj : j < vs.length
      · have h1 := hP j _ (List.getElem?_eq_getElem hj)
        rw [List.getElem?_eq_getElem hj]; exact h1.symm
      · rw [List.getElem?_eq_none (by omega), List.getElem?_eq_none (by omega)]
    rw [e] at hF
    exact hd D nD h' tk ys hF F' N' hoff
theorem tests_one {cenv : Env} {c : PySem.Expr} {Post : Bool → Shared → Prop} (h : wpAny (model prog w) A (isTrue c cenv (eval c cenv)) Post E s) :
    wpAny (model prog w) A (forIn [c] true fun c r => if r = true then do let ok ← isTrue c cenv (eval c cenv); pure (ForInStep.yield ok) else pure (ForInStep.yield r)) Post E s := by
  rw [List.forIn_cons]
  refine wpAny_bind ?_
  rw [if_pos rfl]
  refine wpAny_bind (wpAny_mono h (fun ok s' q => wpAny_pure ?_) fun _ _ e => e)
  dsimp only
  rw [List.forIn_nil]
  exact wpAny_pure q
theorem comp_local {C : Addr} {m₃ : Str → Option Value} {z : Str} {pos : Pos} {v : Value} {R : Value → Shared → Prop} (hn : s.heap.Ns C m₃) (hv : m₃ z = some v) (h : R v s) (hk : scope.kind = .function := by rfl)
    (hx : (compEnvC scope cl C env).kindOf z = some .local := by rfl) (hd : (z == ("__debug__" : Str)) = false := by decide) : wpAny (model prog w) A (eval (.Name z pos) (compEnvC scope cl C env)) R E s := wpAny_Name (wpAny_loadName_local hk hx hn hv h) hd
theorem comp_cell {C c : Addr} {o : Obj} {z : Str} {pos : Pos} {v : Value} {R : Value → Shared → Prop} (hc : cl.lookup z = some c) (hm : s.heap.get? c = some o) (hd : o.data = .cell (some v)) (h : R v s) (hk : scope.kind = .function := by rfl)
    (hx : (compEnvC scope cl C env).kindOf z = some .cell := by rfl) (hb : (z == ("__debug__" : Str)) = false := by decide) : wpAny (model prog w) A (eval (.Name z pos) (compEnvC scope cl C env)) R E s := wpAny_Name (wpAny_loadName_cell hk hx hc ⟨o, hm, hd⟩ h) hb
end
end Mine
namespace Mine
theorem modeU1 : True := by
  w_top off
  trivial
theorem fillU (w : World) (h : Heap) : (hd.heap_39 w.params).In h → PySem.Challenge.rw_et5025_01 = PySem.Challenge.rw_et5025_01 := by
  k_fill
  exact fun _ => rfl
section
variable {prog : Program} {w : World} {A : Around} {E : Value → Shared → Prop} {s : Shared} {h₀ : Heap} {L R : Addr} {m : Str → Option Value} {news tl : List (Addr × Obj)} {rv : List Value} {rs : List RowD} {nR : Nat}
theorem row_sub {value slice : PySem.Expr} {k : Int} {t : Tok} {Q : Value → Shared → Prop} (N : News h₀ L s.heap news) (hm : (R, listOf rv.toArray nR) ∈ news) (hp : RowsAll tl rv rs)
    (hl : rs.length ≤ 10) (h0 : 0 ≤ k) (h1 : k < (rs.length : Int)) (h : ∀ a r t1 t2 t3 t4 n, rs[k.toNat]? = some r → (a, rowO r t1 t2 t3 t4 n) ∈ tl → Q (.ref a) s)
    (hs : subscripted slice false (.ref R) (.int k t) = operate [.ref R, .int k t] (getItem (.ref R) (.int k t)) := by with_unfolding_all rfl) :
    wpAny (model prog w) A (subscriptTail value slice (.ref R) (.int k t)) Q E s := by
  have hk : k.toNat < rs.length := by omega
  obtain ⟨a, t1, t2, t3, t4, n, hv, hin⟩ := hp.get (List.getElem?_eq_getElem hk)
  have hi : s.heap.IsList R rv.toArray := PySem.IsL.isList (n := nR) (N _ hm).1
  exact tail_any hi.typeIs slot_list_getitem.lookup (wpAny_getItem_list hi h0 (by omega) (by simpa using hv) (h _ _ _ _ _ _ _ (List.getElem?_eq_getElem hk) hin)) hs
theorem row_len {Q : Value → Shared → Prop} (N : News h₀ L s.heap news) (hm : (R, listOf rv.toArray nR) ∈ news) (hp : RowsAll tl rv rs) (hl : rs.length ≤ 10) (h : ∀ t k, Q (.int (rs.length : Int) t) { s with toks := k }) :
    wpAny (model prog w) A (call (.builtin "len") [.ref R]) Q E s := by
  have hi : s.heap.IsList R rv.toArray := PySem.IsL.isList (n := nR) (N _ hm).1
  have hz : rv.toArray.size = rs.length := by rw [List.size_toArray]; exact hp.length
  refine PyProof.Rows.len_list hi (by rw [hz]; omega) ?_
  rw [hz]; exact h _ _
theorem led_item {value slice : PySem.Expr} {a : Addr} {its : Array Value} {n : Nat} {k : Int} {t : Tok} {v : Value} {Q : Value → Shared → Prop} (N : News h₀ L s.heap news) (hm : (a, listOf its n) ∈ news) (h0 : 0 ≤ k) (h1 : k < 2 ^ 63) (hx : its[k.toNat]? = some v) (h : Q v s)
    (hs : subscripted slice false (.ref a) (.int k t) = operate [.ref a, .int k t] (getItem (.ref a) (.int k t)) := by with_unfolding_all rfl) :
    wpAny (model prog w) A (subscriptTail value slice (.ref a) (.int k t)) Q E s := by
  have hi : s.heap.IsList a its := by
    have := PySem.IsL.isList (n := n) (N _ hm).1
    exact this
  exact tail_any hi.typeIs slot_list_getitem.lookup (wpAny_getItem_list hi h0 h1 hx h) hs
theorem row_item0 {value slice : PySem.Expr} {a : Addr} {r : RowD} {t1 t2 t3 t4 n : Nat} {t : Tok} {Q : Value → Shared → Prop} (N : News h₀ L s.heap news) (hm : (a, rowO r t1 t2 t3 t4 n) ∈ news) (h : Q (.str r.text t1) s)
    (hs : subscripted slice false (.ref a) (.int 0 t) = operate [.ref a, .int 0 t] (getItem (.ref a) (.int 0 t)) := by with_unfolding_all rfl) :
    wpAny (model prog w) A (subscriptTail value slice (.ref a) (.int 0 t)) Q E s := led_item N hm (by decide) (by decide) rfl h hs
theorem row_item1 {value slice : PySem.Expr} {a : Addr} {r : RowD} {t1 t2 t3 t4 n : Nat} {t : Tok} {Q : Value → Shared → Prop} (N : News h₀ L s.heap news) (hm : (a, rowO r t1 t2 t3 t4 n) ∈ news) (h : Q (.int r.width t2) s)
    (hs : subscripted slice false (.ref a) (.int 1 t) = operate [.ref a, .int 1 t] (getItem (.ref a) (.int 1 t)) := by with_unfolding_all rfl) :
    wpAny (model prog w) A (subscriptTail value slice (.ref a) (.int 1 t)) Q E s := led_item N hm (by decide) (by decide) rfl h hs
theorem row_item2 {value slice : PySem.Expr} {a : Addr} {r : RowD} {t1 t2 t3 t4 n : Nat} {t : Tok} {Q : Value → Shared → Prop} (N : News h₀ L s.heap news) (hm : (a, rowO r t1 t2 t3 t4 n) ∈ news) (h : Q (.int r.sort t3) s)
    (hs : subscripted slice false (.ref a) (.int 2 t) = operate [.ref a, .int 2 t] (getItem (.ref a) (.int 2 t)) := by with_unfolding_all rfl) :
    wpAny (model prog w) A (subscriptTail value slice (.ref a) (.int 2 t)) Q E s := led_item N hm (by decide) (by decide) rfl h hs
theorem row_item3 {value slice : PySem.Expr} {a : Addr} {r : RowD} {t1 t2 t3 t4 n : Nat} {t : Tok} {Q : Value → Shared → Prop} (N : News h₀ L s.heap news) (hm : (a, rowO r t1 t2 t3 t4 n) ∈ news) (h : Q (.str r.word t4) s)
    (hs : subscripted slice false (.ref a) (.int 3 t) = operate [.ref a, .int 3 t] (getItem (.ref a) (.int 3 t)) := by with_unfolding_all rfl) :
    wpAny (model prog w) A (subscriptTail value slice (.ref a) (.int 3 t)) Q E s := led_item N hm (by decide) (by decide) rfl h hs
theorem head_item {value slice : PySem.Expr} {a : Addr} {v : Value} {rest : List Value} {n : Nat} {t : Tok} {Q : Value → Shared → Prop} (N : News h₀ L s.heap news) (hm : (a, listOf (v :: rest).toArray n) ∈ news) (h : Q v s)
    (hs : subscripted slice false (.ref a) (.int 0 t) = operate [.ref a, .int 0 t] (getItem (.ref a) (.int 0 t)) := by with_unfolding_all rfl) :
    wpAny (model prog w) A (subscriptTail value slice (.ref a) (.int 0 t)) Q E s := led_item N hm (by decide) (by decide) (by simp) h hs
theorem rows_slice {value slice : PySem.Expr} {k : Int} {vl vu : Value} {Q : Value → Shared → Prop} (F : Fr h₀ L s.heap m) (N : News h₀ L s.heap news) (hm : (R, listOf rv.toArray nR) ∈ news) (hp : RowsAll tl rv rs) (hl : rs.length ≤ 10) (h0 : 0 ≤ k) (pl : IsPart vl (some k)) (pu : IsPart vu none)
    (h : ∀ D h', Fr h₀ L h' m → News h₀ L h' ((D, listOf (rv.drop k.toNat).toArray 0) :: news) → (∀ p ∈ news, p.1 < D) → RowsAll tl (rv.drop k.toNat) (rs.drop k.toNat) → (rs.drop k.toNat).length ≤ 10 → Q (.ref D) { s with heap := h' })
    (hs : subscripted slice false (.ref R) (.ref s.heap.objs.size) = operate [.ref s.heap.objs.size, .ref R] (getItem (.ref R) (.ref s.heap.objs.size))) (ht : ∀ r, letTemporaryGo value (.ref R) r = pure ()) :
    wpAny (model prog w) A (subscriptTail value slice (.ref R) (.ref s.heap.objs.size)) Q E { s with heap := s.heap.push { cls := .type "slice", data := .fields #[vl, vu, .none] } } := by
  have hi : s.heap.IsList R rv.toArray := PySem.IsL.isList (n := nR) (N _ hm).1
  have hz : rv.toArray.size = rs.length := by rw [List.size_toArray]; exact hp.length
  refine kmk_slice F N hi pl pu (fun D h' F' N' l1 => h D h' F' ?_ l1 (hp.drop _) (by rw [List.length_drop]; omega)) hs ht (by rw [hz, sizeLine_eq]; omega)
  have hk : k = ((k.toNat : Nat) : Int) := by omega
  have e := slicePick_from' rv.toArray k.toNat
  rw [← hk, List.toList_toArray] at e
  rw [e] at N'
  exact N'
end
def Hold (P : Prop) : Prop := P
theorem Hold.mk {P : Prop} (h : Hold P) : P := h

/-- the test of the first comprehension -/
def pH (qs : List RowD) (v : Value) : Bool := match v with
  | .int k _ => (match qs[k.toNat]? with
    | some r => decide (r.sort = 1)
    | none => false)
  | _ => false
theorem pH_at {qs : List RowD} {k : Int} {t : Tok} {r : RowD} (h : qs[k.toNat]? = some r) : pH qs (.int k t) = decide (r.sort = 1) := by
  unfold pH; dsimp only; rw [h]
theorem paired_eq {l ys : List Value} (h : Paired (fun v y => y = v) l ys) : ys = l := by
  induction h with
  | nil => rfl
  | cons e _ ih => rw [e, ih]
theorem heads_from {qs : List RowD} {vs : List Value} (hl : vs.length = qs.length) (hv : ∀ (j : Nat) v, vs[j]? = some v → ∃ t, v = Value.int (j : Int) t) : ∀ (d i : Nat), d = vs.length - i →
    ((vs.drop i).filter (pH qs) = [] ∧ D1f qs i = []) ∨ ∃ (j : Nat) (t : Tok) (rest : List Value) (r : RowD), (vs.drop i).filter (pH qs) = Value.int (j : Int) t :: rest ∧ j < qs.length ∧ D1f qs i = r :: qs.drop (j + 1)
  | 0, i, hd => .inl ⟨by rw [List.drop_eq_nil_of_le (by omega)]; rfl, D1_end (by omega)⟩
  | d + 1, i, hd => by
    have hi : i < vs.length := by omega
    have hq : i < qs.length := by omega
    obtain ⟨t, ht⟩ := hv i _ (List.getElem?_eq_getElem hi)
    have hr : qs[i]? = some qs[i] := List.getElem?_eq_getElem hq
    have hp : pH qs (Value.int (i : Int) t) = decide (qs[i].sort = 1) := pH_at (by rw [Int.toNat_natCast]; exact hr)
    rw [List.drop_eq_getElem_cons hi, ht]
    by_cases c : qs[i].sort = 1
    · rw [List.filter_cons_of_pos (by rw [hp]; exact decide_eq_true c), D1_stop hr c]
      exact .inr ⟨i, t, _, _, rfl, hq, rfl⟩
    · rw [List.filter_cons_of_neg (by rw [hp, decide_eq_false c]; decide), D1_step hr c]
      exact heads_from hl hv d (i + 1) (by omega)
theorem heads_of {qs : List RowD} {vs : List Value} {ys : Array Value} (hl : vs.length = qs.length) (hv : ∀ (j : Nat) v, vs[j]? = some v → ∃ t, v = Value.int (j : Int) t) (hF : Paired (fun v y => y = v) (vs.filter (pH qs)) ys.toList) :
    (ys = ([] : List Value).toArray ∧ D1f qs 0 = []) ∨ ∃ (j : Nat) (t : Tok) (rest : List Value) (r : RowD), ys = (Value.int (j : Int) t :: rest).toArray ∧ j < qs.length ∧ D1f qs 0 = r :: qs.drop (j + 1) := by
  have e := paired_eq hF
  have e' : ys = (vs.filter (pH qs)).toArray := Array.toList_inj.mp (by rw [e])
  have := heads_from hl hv _ 0 rfl
  rw [List.drop_zero] at this
  rcases this with ⟨a, b⟩ | ⟨j, t, rest, r, a, b, c⟩
  · exact .inl ⟨by rw [e', a], b⟩
  · exact .inr ⟨j, t, rest, r, by rw [e', a], b, c⟩
def sortOf (o : Obj) : Int := match o.data with
  | .seq xs _ => (match xs.toList with
    | [_, _, .int k _, _] => k
    | _ => 0)
  | _ => 0
open Classical in
noncomputable def pB (tl : List (Addr × Obj)) (v : Value) : Bool := decide (∃ a r t1 t2 t3 t4 n, v = Value.ref a ∧ (a, rowO r t1 t2 t3 t4 n) ∈ tl ∧ r.sort ≠ -1)
theorem pB_row {h₀ h : Heap} {L a : Addr} {tl : List (Addr × Obj)} {r : RowD} {t1 t2 t3 t4 n : Nat} (N : News h₀ L h tl) (hm : (a, rowO r t1 t2 t3 t4 n) ∈ tl) : pB tl (.ref a) = decide (r.sort ≠ -1) := by
  unfold pB
  by_cases c : r.sort ≠ -1
  · rw [decide_eq_true c]
    exact @decide_eq_true _ (Classical.propDecidable _) ⟨a, r, t1, t2, t3, t4, n, rfl, hm, c⟩
  · rw [decide_eq_false c]
    refine @decide_eq_false _ (Classical.propDecidable _) ?_
    rintro ⟨a', r', u1, u2, u3, u4, n', e, hm', c'⟩
    cases e
    have := congrArg sortOf (news_fun N hm hm')
    exact c (show r.sort ≠ -1 from (show r.sort = r'.sort from this) ▸ c')
theorem behind_of {h₀ h : Heap} {L : Addr} {tl : List (Addr × Obj)} {qv : List Value} {qs : List RowD} (N : News h₀ L h tl) (ha : RowsAll tl qv qs) : RowsAll tl (qv.filter (pB tl)) (qs.filter fun r => decide (r.sort ≠ -1)) := by
  induction ha with
  | nil => exact .nil
  | cons hm hr ih =>
    rename_i a r t1 t2 t3 t4 n vs' rs'
    have e := pB_row N hm
    by_cases c : r.sort ≠ -1
    · rw [List.filter_cons_of_pos (by rw [e]; exact decide_eq_true c), List.filter_cons_of_pos (by exact decide_eq_true c)]
      exact .cons hm ih
    · rw [List.filter_cons_of_neg (by rw [e, decide_eq_false c]; decide), List.filter_cons_of_neg (by rw [decide_eq_false c]; decide)]
      exact ih
theorem last_filter (level : Int) : ∀ qs : List RowD, lastAns (D2f qs 0) level = lastAns (qs.filter fun r => decide (r.sort ≠ -1)) level
  | [] => rfl
  | r :: qs => by
    unfold D2f
    rw [List.drop_zero]
    by_cases c : r.sort = -1
    · rw [List.dropWhile_cons_of_pos (by exact decide_eq_true c), List.filter_cons_of_neg (by simp [c])]
      have := last_filter level qs
      unfold D2f at this
      rw [List.drop_zero] at this
      exact this
    · rw [List.dropWhile_cons_of_neg (by simp [c]), List.filter_cons_of_pos (by exact decide_eq_true c)]
      rfl
section
variable {prog : Program} {w : World} {A : Around} {E : Value → Shared → Prop} {s : Shared} {h₀ : Heap} {L H Z : Addr} {m : Str → Option Value} {news : List (Addr × Obj)} {nH nZ : Nat} {Q : Value → Shared → Prop}
theorem list_ne_nil {v : Value} {rest : List Value} (N : News h₀ L s.heap news) (hH : (H, listOf (v :: rest).toArray nH) ∈ news) (hZ : (Z, listOf #[] nZ) ∈ news) (hu : A.units < cLine) (h : Q (.bool false) s) :
    wpAny (model prog w) A (compareOp .Eq (.ref H) (.ref Z)) Q E s := by
  have e1 := (N _ hH).1
  have e2 := (N _ hZ).1
  refine cmp_ofEq (wpAny_richCompare_same_room (T := "list") ⟨_, e1, rfl⟩ ⟨_, e2, rfl⟩ F.slot_list_eq (call_meets F.slot_list_eq ⟨_, e1, rfl⟩ F.entry_list_eq (F.args_list_eq_2 _ _)
    (SeqAt.list_eq_lengthsAt H Z (v :: rest).toArray #[] nH nZ none none #[] #[] (by simp)) ⟨e1, e2, ?_⟩) hu)
  exact ⟨(by intro q; cases q), h⟩
theorem list_eq_nil (N : News h₀ L s.heap news) (hH : (H, listOf ([] : List Value).toArray nH) ∈ news) (hZ : (Z, listOf #[] nZ) ∈ news) (hu : A.units + 64 < cLine) (h : Q (.bool true) s) :
    wpAny (model prog w) A (compareOp .Eq (.ref H) (.ref Z)) Q E s :=
  eq_intsK (ns := []) (ms := []) (vs := []) (us := []) (PySem.IsL.isList (n := nH) (N _ hH).1) .nil (PySem.IsL.isList (n := nZ) (N _ hZ).1) .nil hu h
end
local macro_rules | `(tactic| k_all) => `(tactic| assumption)
local macro_rules | `(tactic| k_mem) => `(tactic| assumption)
local macro_rules | `(tactic| walk_at "subscriptTail") => `(tactic| (k_here; (with_reducible show wpAny _ _ (subscriptTail _ _ (Value.ref _) (Value.int _ _)) _ _ _); refine' row_sub ?k1 ?k2 ?k3 ?k4 ?k5 ?k6 ?_ ?k8; (case k1 => k_asm); (case k2 => k_mem); (case k3 => assumption); (case k4 => assumption); (case k5 => omega); (case k6 => omega); (case k8 => with_unfolding_all rfl); intro a' r' t1' t2' t3' t4' n' hr' hm'))
local macro_rules | `(tactic| walk_at "call builtin:len") => `(tactic| (k_here; refine' row_len ?k1 ?k2 ?k3 ?k4 ?_; (case k1 => k_asm); (case k2 => k_mem); (case k3 => assumption); (case k4 => assumption); intro t' k'))
local macro_rules | `(tactic| walk_at "subscriptTail") => `(tactic| (k_here; (with_reducible show wpAny _ _ (subscriptTail _ _ (Value.ref _) (Value.int 0 _)) _ _ _); refine' row_item0 ?k1 ?k2 ?_ ?k8; (case k1 => k_asm); (case k2 => k_mem); (case k8 => with_unfolding_all rfl); k_whole))
local macro_rules | `(tactic| walk_at "subscriptTail") => `(tactic| (k_here; (with_reducible show wpAny _ _ (subscriptTail _ _ (Value.ref _) (Value.int 1 _)) _ _ _); refine' row_item1 ?k1 ?k2 ?_ ?k8; (case k1 => k_asm); (case k2 => k_mem); (case k8 => with_unfolding_all rfl); k_whole))
local macro_rules | `(tactic| walk_at "subscriptTail") => `(tactic| (k_here; (with_reducible show wpAny _ _ (subscriptTail _ _ (Value.ref _) (Value.int 2 _)) _ _ _); refine' row_item2 ?k1 ?k2 ?_ ?k8; (case k1 => k_asm); (case k2 => k_mem); (case k8 => with_unfolding_all rfl); k_whole))
local macro_rules | `(tactic| walk_at "subscriptTail") => `(tactic| (k_here; (with_reducible show wpAny _ _ (subscriptTail _ _ (Value.ref _) (Value.int 3 _)) _ _ _); refine' row_item3 ?k1 ?k2 ?_ ?k8; (case k1 => k_asm); (case k2 => k_mem); (case k8 => with_unfolding_all rfl); k_whole))
local macro_rules | `(tactic| walk_at "subscriptTail") => `(tactic| (k_here; (with_reducible show wpAny _ _ (subscriptTail _ _ (Value.ref _) (Value.int 0 _)) _ _ _); refine' head_item ?k1 ?k2 ?_ ?k8; (case k1 => k_asm); (case k2 => k_mem); (case k8 => with_unfolding_all rfl); k_whole))
local macro_rules | `(tactic| walk_at "subscriptTail Name Slice ref ref") => `(tactic| (k_here; k_dflt (refine' rows_slice ?F ?N ?k2 ?k3 ?k4 ?k5 ?p ?q ?_ ?s ?t; (case F => k_asm); (case N => k_asm); (case k2 => k_mem); (case k3 => assumption); (case k4 => assumption); (case p => kmk_part); (case q => kmk_part); (case k5 => omega); (case s => with_unfolding_all rfl); (case t => kmk_pure)); intro D' h' F' N' l1 hra' hlen'; (try k_lt l1); (try k_sweep)))
local macro_rules | `(tactic| walk_at "exec Assign cons ListComp") => `(tactic| (k_here; refine Hold.mk ?_))
local macro_rules | `(tactic| walk_at "pyIter ref") => `(tactic| (k_here; (with_reducible show wpAny _ _ (pyIter (Value.ref _)) (CompAsk _ _ _ _ _ _ _ _ _ _ _ _ _) _ _); refine Hold.mk ?_))
local macro_rules | `(tactic| walk_at "call type:range") => `(tactic| (k_here; k_dflt ((rename Fr _ _ _ _ => lF'); (rename News _ _ _ _ => lN'); (with_unfolding_all refine' range1_rows lF' lN' ?_); intro h' tk' t1' u1' v1' hR' F' N' hk'; (try clear lF' lN'))))
local macro_rules | `(tactic| walk_at "eval Name") => `(tactic| (k_here; (with_reducible show wpAny _ _ (eval (Expr.Name _ _) (compEnvC _ _ _ _)) _ _ _); first | (refine' comp_local ?n ?v ?_; (case n => assumption); (case v => assumption)) | (refine' comp_cellN ?N ?c ?m ?d ?_; (case c => rfl); (case N => k_asm); (case m => k_mem); (case d => assumption))))
local macro_rules | `(tactic| walk_at "compareOp Eq ref ref") => `(tactic| (k_here; first
  | (refine' list_ne_nil ?N ?h ?z ?u ?_; (case N => k_asm); (case h => k_mem); (case z => k_mem); (case u => (show _ < 9900; (simp only [Around.deeper_units, AA]); omega)))
  | (refine' list_eq_nil ?N ?h ?z ?u ?_; (case N => k_asm); (case h => k_mem); (case z => k_mem); (case u => (show _ < 9900; (simp only [Around.deeper_units, AA]); omega)))))
section
variable {prog : Program} {w : World} {A : Around} {E : Value → Shared → Prop} {Q : Flow → Shared → Prop} {s : Shared} {env : Env} {h₀ : Heap} {L : Addr} {x y : Str} {scope : Scope} {cl : List (Str × Addr)} {news : List (Addr × Obj)}
theorem comp_cellN {C c : Addr} {o : Obj} {z : Str} {pos : Pos} {v : Value} {R : Value → Shared → Prop} (N : News h₀ L s.heap news) (hc : cl.lookup z = some c) (hm : (c, o) ∈ news) (hd : o.data = .cell (some v)) (h : R v s) (hk : scope.kind = .function := by rfl)
    (hx : (compEnvC scope cl C env).kindOf z = some .cell := by rfl) (hb : (z == ("__debug__" : Str)) = false := by decide) : wpAny (model prog w) A (eval (.Name z pos) (compEnvC scope cl C env)) R E s := comp_cell hc (N _ hm).1 hd h hk hx hb
theorem heads_comp {elt iter : PySem.Expr} {px py : Pos} {ifs : List PySem.Expr} {pos spos : Pos} {tl : List (Addr × Obj)} {qv : List Value} {qs : List RowD} (hraU : RowsAll tl qv qs)
    (hsw : swapsWith (.ListComp elt [⟨.Name x px, iter, ifs, 0⟩] scope pos) (some (.Name y py)) spos.line env = pure true)
    (hclos : closureFor scope env = pure cl) (hcell : ∀ z ∈ scope.names, z.2 ≠ .cell) (hkind : scope.kind = .function)
    (hnames : ∀ z ∈ scope.names, z.2 = .local → scope.names.lookup z.1 = some .local) (hx : scope.names.lookup x = some .local)
    (hy : env.kindOf y = some .local) (hp : (env.scope.kind == .class || (env.scope.kind == .module && env.locals != env.globals)) = false)
    (h : wpAny (model prog w) A (eval iter env) (fun xv s₁ => wpAny (model prog w) A (pyIter xv) (CompAsk prog w A env scope cl x y ifs elt (pH qs) (fun v y => y = v) Q) E s₁) E s)
    (hs : ∀ x, foldedSetIterable iter env x = pure x := by intro _; rfl) :
    wpAny (model prog w) A (exec (.Assign [.Name y py] (.ListComp elt [⟨.Name x px, iter, ifs, 0⟩] scope pos) spos) env) Q E s :=
  wpAny_Assign_ListComp_free (pH qs) (fun v y => y = v) hsw hclos hcell hkind hnames hx hy hp h hs
theorem behind_comp {elt iter : PySem.Expr} {px py : Pos} {ifs : List PySem.Expr} {pos spos : Pos} {tl : List (Addr × Obj)} {qv : List Value} {qs : List RowD} (hraU : RowsAll tl qv qs)
    (hsw : swapsWith (.ListComp elt [⟨.Name x px, iter, ifs, 0⟩] scope pos) (some (.Name y py)) spos.line env = pure true)
    (hclos : closureFor scope env = pure cl) (hcell : ∀ z ∈ scope.names, z.2 ≠ .cell) (hkind : scope.kind = .function)
    (hnames : ∀ z ∈ scope.names, z.2 = .local → scope.names.lookup z.1 = some .local) (hx : scope.names.lookup x = some .local)
    (hy : env.kindOf y = some .local) (hp : (env.scope.kind == .class || (env.scope.kind == .module && env.locals != env.globals)) = false)
    (h : wpAny (model prog w) A (eval iter env) (fun xv s₁ => wpAny (model prog w) A (pyIter xv) (CompAsk prog w A env scope cl x y ifs elt (pB tl) (fun v y => y = v) Q) E s₁) E s)
    (hs : ∀ x, foldedSetIterable iter env x = pure x := by intro _; rfl) :
    wpAny (model prog w) A (exec (.Assign [.Name y py] (.ListComp elt [⟨.Name x px, iter, ifs, 0⟩] scope pos) spos) env) Q E s :=
  wpAny_Assign_ListComp_free (pB tl) (fun v y => y = v) hsw hclos hcell hkind hnames hx hy hp h hs
theorem news_up {g : Heap} {h h' : Heap} {I : Addr} (N : News h₀ L h news) (up : ∀ b o, h.get? b = some o → g.get? b = some o) (hI : h.get? I = none) (hk : ∀ b o, b ∉ [I] → g.get? b = some o → h'.get? b = some o) : News h₀ L h' news := fun p hp =>
  ⟨hk _ _ (fun q => by have := (N p hp).1; rw [List.mem_singleton.mp q, hI] at this; cases this) (up _ _ (N p hp).1), (N p hp).2⟩
end
theorem rows_cases {tl : List (Addr × Obj)} {vs : List Value} {rs : List RowD} (h : RowsAll tl vs rs) : (vs = [] ∧ rs = []) ∨ ∃ (a : Addr) (r : RowD) (t1 t2 t3 t4 n : Nat) (vr : List Value) (rr : List RowD), vs = Value.ref a :: vr ∧ rs = r :: rr ∧ (a, rowO r t1 t2 t3 t4 n) ∈ tl := by
  cases h with
  | nil => exact .inl ⟨rfl, rfl⟩
  | cons hm _ => exact .inr ⟨_, _, _, _, _, _, _, _, _, rfl, rfl, hm⟩
theorem rows_at {tl : List (Addr × Obj)} {vs : List Value} {rs : List RowD} (h : RowsAll tl vs rs) {i : Nat} {v : Value} (hv : vs[i]? = some v) : ∃ (a : Addr) (r : RowD) (t1 t2 t3 t4 n : Nat), v = Value.ref a ∧ (a, rowO r t1 t2 t3 t4 n) ∈ tl := by
  have hi : i < vs.length := (List.getElem?_eq_some_iff.mp hv).1
  have hj : i < rs.length := by rw [← h.length]; exact hi
  obtain ⟨a, t1, t2, t3, t4, n, e, hm⟩ := h.get (List.getElem?_eq_getElem hj)
  rw [hv] at e
  exact ⟨a, _, t1, t2, t3, t4, n, Option.some.inj e, hm⟩
def ShallowD (rs : List RowD) (pl : Nat) (level : Int) : Prop := ¬ 0 < (pl : Int) ∨ ∃ r, rs[((pl : Int) - 1).toNat]? = some r ∧ ¬ level < r.width
theorem ShallowD.to {rs : List RowD} {pl : Nat} {level : Int} (h : ShallowD rs pl level) : Shallow rs pl level := by
  rcases h with h | ⟨r, hr, hw⟩
  · exact .inl (by omega)
  · exact .inr ⟨r, by rw [show ((pl : Int) + 1 - 1 - 1) = (pl : Int) - 1 by omega]; exact hr, hw⟩
theorem dans_b {rs : List RowD} {pl : Nat} {level sort : Int} (hb : sort = 0) : answer rs pl (decide (sort ≠ 0)) level = false := ans_b (by rw [hb]; rfl)
theorem dans_prev {rs : List RowD} {pl : Nat} {level : Int} {b : Bool} {r : RowD} (h1 : 0 < (pl : Int)) (hr : rs[((pl : Int) - 1).toNat]? = some r) (hw : level < r.width) : answer rs pl b level = false :=
  ans_prev (r := r) (by omega) (by rw [show ((pl : Int) + 1 - 1 - 1) = (pl : Int) - 1 by omega]; exact hr) hw
theorem D1_drop (rs : List RowD) (pl : Nat) : D1f rs pl = D1f (rs.drop ((pl : Int)).toNat) 0 := by
  unfold D1f; rw [List.drop_zero, Int.toNat_natCast]
theorem dans3 {rs : List RowD} {pl : Nat} {level sort : Int} (hb : sort ≠ 0) (hp : ShallowD rs pl level) (h1 : D1f (rs.drop ((pl : Int)).toNat) 0 = []) : answer rs pl (decide (sort ≠ 0)) level = false := by
  rw [ans_main (decide_eq_true hb) hp.to, D1_drop, h1]; rfl
theorem dans_mid {rs : List RowD} {pl j : Nat} {level sort : Int} {r : RowD} (hb : sort ≠ 0) (hp : ShallowD rs pl level) (h1 : D1f (rs.drop ((pl : Int)).toNat) 0 = r :: (rs.drop ((pl : Int)).toNat).drop (j + 1)) :
    answer rs pl (decide (sort ≠ 0)) level = lastAns (((rs.drop ((pl : Int)).toNat).drop (((j : Nat) : Int) + 1).toNat).filter fun r => decide (r.sort ≠ -1)) level := by
  rw [ans_main (decide_eq_true hb) hp.to, D1_drop, h1, show (((j : Nat) : Int) + 1).toNat = j + 1 by omega]
  exact last_filter level _
theorem dans4 {rs : List RowD} {pl j : Nat} {level sort : Int} {r : RowD} (hb : sort ≠ 0) (hp : ShallowD rs pl level) (h1 : D1f (rs.drop ((pl : Int)).toNat) 0 = r :: (rs.drop ((pl : Int)).toNat).drop (j + 1))
    (h2 : (((rs.drop ((pl : Int)).toNat).drop (((j : Nat) : Int) + 1).toNat).filter fun r => decide (r.sort ≠ -1)) = []) : answer rs pl (decide (sort ≠ 0)) level = true := by
  rw [dans_mid hb hp h1, h2]; rfl
theorem dans5 {rs rr : List RowD} {pl j : Nat} {level sort : Int} {r r2 : RowD} (hb : sort ≠ 0) (hp : ShallowD rs pl level) (h1 : D1f (rs.drop ((pl : Int)).toNat) 0 = r :: (rs.drop ((pl : Int)).toNat).drop (j + 1))
    (h2 : (((rs.drop ((pl : Int)).toNat).drop (((j : Nat) : Int) + 1).toNat).filter fun r => decide (r.sort ≠ -1)) = r2 :: rr) : answer rs pl (decide (sort ≠ 0)) level = decide (r2.width ≤ level) := by
  rw [dans_mid hb hp h1, h2]; rfl
theorem bne_dec (k : Int) : (k != -1) = decide (k ≠ -1) := by by_cases c : k = -1 <;> simp [c]
theorem due_spec {w : World} {A₀ : Around} {base h₀ : Heap} {outer : List Env} {env : Env} {d u : Nat} {mean : ExcName → Option Value} {mg mb : Str → Option Value}
    {s : Shared} {L : Addr} {m : Str → Option Value} {Q : Value → Shared → Prop} {E : Value → Shared → Prop} {news : List (Addr × Obj)}
    {R : Addr} {sort level : Int} {ts tl ta nR pl : Nat} {rv : List Value} {rs : List RowD}
    (B : Below A₀ base outer h₀) (F : Fr h₀ L s.heap m) (X : (hd.heap_39 w.params).In h₀) (T : Top V1 L1 mean mg mb h₀) (N : News h₀ L s.heap news)
    (hf : env.frame = some L) (hke : env.scope.kind = .function) (hd : d ≤ 490) (hu : u ≤ 5000)
    (hR : (R, listOf rv.toArray nR) ∈ news) (hra : RowsAll news rv rs) (hlen : rs.length ≤ 10) (hpl : pl < rs.length)
    (h : ∀ h' tk, Fr h₀ L h' m → News h₀ L h' news → Q (.bool (answer rs pl (decide (sort ≠ 0)) level)) { s with heap := h', toks := tk }) :
    wpAny (model P1 w) (AA d u (env :: outer)) (call (.ref 90) [.ref R, .int (pl : Int) ta, .int sort ts, .int level tl] []) Q E s := by
  have hroom : (AA d u (env :: outer)).depth < recursionLimit := by show d < 1000; omega
  refine wpAny_call ?_
  refine' code_defC ?k1 ?k2 ?k3 ?k4 ?k5 ?kA ?kF ?kK ?k6 ?k7 ?k8 ?k9 ?kB ?kD ?_ ?c2 ?c3 ?c4
  (case kA => exact rfl); (case kF => exact hf); (case kK => exact hke); (case k1 => exact B); (case k2 => exact F); (case k3 => exact X); (case k4 => exact N); (case k5 => exact T); (case k6 => k_is); (case k7 => k_is); (case k8 => exact hroom)
  case k9 => exact BindsTo.of_eq rfl
  case kB => exact rfl
  case kD => decide +kernel
  (case c2 => exact rfl); (case c3 => exact rfl); (case c4 => exact rfl)
  intro g' L' h' tk' cells' FG' F' N' Y' B' X' T' l1
  have l2 : ∀ p ∈ news, p.1 ≠ L' + 1 := fun p hp => Nat.ne_of_lt (Nat.lt_succ_of_lt (l1 p hp))
  (try k_lt l1)
  k_cells Y'
  (try simp only [List.cons_append, List.nil_append] at N')
  (try dsimp only)
  (try k_lift B')
  (try k_fold)
  k_steps
  all_goals first
    | (show Q _ _; skip)
    | (unfold Hold; (with_reducible rename RowsAll _ _ _ => hra9)
       refine' heads_comp hra9 ?w1 ?w2 ?w3 ?w4 ?w5 ?w6 ?w7 ?w8 ?_
       (case w1 => with_unfolding_all rfl); (case w2 => with_unfolding_all rfl); (case w3 => decide); (case w4 => rfl); (case w5 => decide); (case w6 => rfl); (case w7 => rfl); (case w8 => rfl)
       k_steps
       unfold Hold
       (rename IsRange _ _ _ _ _ _ _ _ => hR9); (rename Fr _ _ _ _ => F9); (rename News _ _ _ _ => N9)
       refine comp_range (by rfl) hR9 (by omega) (by omega) F9 N9 ?hq ?hd
       case hq =>
         intro I9 g9 up9 hI9
         refine ⟨fun C9 i9 v9 s9 m9 E9 hC9 hv9 hn9 hm9 hk9 ht9 => ?_, fun C9 i9 v9 s9 m9 E9 hC9 hv9 hp9 hn9 hm9 hk9 ht9 => comp_local hn9 hm9 ⟨rfl, _, _, rfl, fun _ _ e => e⟩⟩
         obtain ⟨hi9, t9, rfl⟩ := hv9
         refine tests_one ?_
         have N8 := news_up N9 up9 hI9 hk9
         k_steps
         all_goals first | exact (pH_at (by assumption)).symm | exact ⟨_, _, rfl, fun _ _ e => e⟩
       case hd =>
         intro D9 nD9 h9 tk9 ys9 vs9 hl9 hv9 hF9 F8 N8 hoff9
         dsimp only
         rcases heads_of (by omega) hv9 hF9 with ⟨e9, eD9⟩ | ⟨j9, t9, rest9, r9, e9, hj9, eD9⟩
         · subst e9
           clear hF9 hv9 N9 F9
           k_steps
           refine b_cast (dans3 (by assumption) ?hsh eD9) (h _ _ (by assumption) (news_sub (by assumption) ?hsub))
           case hsh => first | exact Or.inl (by assumption) | exact Or.inr ⟨_, by assumption, by assumption⟩
           case hsub => (intro p hp; repeat (first | exact hp | refine List.Mem.tail _ ?_))
         · subst e9
           clear hF9 hv9 N9 F9
           k_steps
           unfold Hold
           refine' behind_comp hra9 ?w1 ?w2 ?w3 ?w4 ?w5 ?w6 ?w7 ?w8 ?_
           (case w1 => with_unfolding_all rfl); (case w2 => with_unfolding_all rfl); (case w3 => decide); (case w4 => rfl); (case w5 => decide); (case w6 => rfl); (case w7 => rfl); (case w8 => rfl)
           k_steps
           unfold Hold
           (with_reducible rename RowsAll _ _ _ => hra7); (rename Fr _ _ _ _ => F9); (rename News _ _ _ _ => N9)
           have N0 : News _ _ _ news := news_sub N9 (fun p hp => by repeat (first | exact hp | refine List.Mem.tail _ ?_))
           have hz7 := hra7.length
           refine comp_led (by rfl) (.head _) (by omega) F9 N9 ?hq2 ?hd2
           case hq2 =>
             intro I9 g9 up9 hI9
             refine ⟨fun C9 i9 v9 s9 m9 E9 hC9 hv9 hn9 hm9 hk9 ht9 => ?_, fun C9 i9 v9 s9 m9 E9 hC9 hv9 hp9 hn9 hm9 hk9 ht9 => comp_local hn9 hm9 ⟨rfl, _, _, rfl, fun _ _ e => e⟩⟩
             obtain ⟨a9, q9, u1, u2, u3, u4, u5, rfl, hin9⟩ := rows_at hra7 hv9
             refine tests_one ?_
             have N8 := news_up N9 up9 hI9 hk9
             k_steps
             all_goals first | exact ⟨_, _, rfl, fun _ _ e => e⟩ | (rw [pB_row N0 hin9]; exact bne_dec _)
           case hd2 =>
             intro D7 nD7 h7 tk7 ys7 hF7 F7 N7 hoff7
             dsimp only
             have hb7 := behind_of N0 hra7
             have e7 : ys7 = _ := Array.toList_inj.mp ((paired_eq hF7).trans (List.toList_toArray).symm)
             rcases rows_cases hb7 with ⟨x7, y7⟩ | ⟨a7, r7, u1, u2, u3, u4, u5, vr7, rr7, x7, y7, hin7⟩
             · rw [x7] at e7
               subst e7
               clear hF7 N9 F9
               k_steps
               refine b_cast (dans4 (by assumption) ?hsh eD9 y7) (h _ _ (by assumption) (news_sub (by assumption) ?hsub))
               case hsh => first | exact Or.inl (by assumption) | exact Or.inr ⟨_, by assumption, by assumption⟩
               case hsub => (intro p hp; repeat (first | exact hp | refine List.Mem.tail _ ?_))
             · rw [x7] at e7
               subst e7
               clear hF7 N9 F9
               k_steps
               refine b_cast (dans5 (by assumption) ?hsh eD9 y7) (h _ _ (by assumption) (news_sub (by assumption) ?hsub))
               case hsh => first | exact Or.inl (by assumption) | exact Or.inr ⟨_, by assumption, by assumption⟩
               case hsub => (intro p hp; repeat (first | exact hp | refine List.Mem.tail _ ?_)))
  all_goals refine b_cast ?_ (h _ _ (by assumption) (news_sub (by assumption) ?_))
  all_goals first
    | exact dans_b (by assumption)
    | exact dans_prev (by assumption) (by assumption) (by assumption)
    | (intro p hp; repeat (first | exact hp | refine List.Mem.tail _ ?_))
end Mine
namespace Mine
def revF (tl : List (Addr × Obj)) (v y : Value) : Prop := ∃ (a : Addr) (r : RowD) (t1 t2 t3 t4 n t : Nat), v = Value.ref a ∧ (a, rowO r t1 t2 t3 t4 n) ∈ tl ∧ y = Value.str r.text t
section
variable {prog : Program} {w : World} {A : Around} {E : Value → Shared → Prop} {Q : Flow → Shared → Prop} {s : Shared} {env : Env} {h₀ : Heap} {L : Addr} {x y : Str} {scope : Scope} {cl : List (Str × Addr)} {news : List (Addr × Obj)}
theorem lines_comp {elt iter : PySem.Expr} {px py : Pos} {ifs : List PySem.Expr} {pos spos : Pos} {tl : List (Addr × Obj)} {qv : List Value} {qs : List RowD} (hraU : RowsAll tl qv qs)
    (hsw : swapsWith (.ListComp elt [⟨.Name x px, iter, ifs, 0⟩] scope pos) (some (.Name y py)) spos.line env = pure true)
    (hclos : closureFor scope env = pure cl) (hcell : ∀ z ∈ scope.names, z.2 ≠ .cell) (hkind : scope.kind = .function)
    (hnames : ∀ z ∈ scope.names, z.2 = .local → scope.names.lookup z.1 = some .local) (hx : scope.names.lookup x = some .local)
    (hy : env.kindOf y = some .local) (hp : (env.scope.kind == .class || (env.scope.kind == .module && env.locals != env.globals)) = false)
    (h : wpAny (model prog w) A (eval iter env) (fun xv s₁ => wpAny (model prog w) A (pyIter xv) (CompAsk prog w A env scope cl x y ifs elt (fun _ => true) (revF tl) Q) E s₁) E s)
    (hs : ∀ x, foldedSetIterable iter env x = pure x := by intro _; rfl) :
    wpAny (model prog w) A (exec (.Assign [.Name y py] (.ListComp elt [⟨.Name x px, iter, ifs, 0⟩] scope pos) spos) env) Q E s :=
  wpAny_Assign_ListComp_free (fun _ => true) (revF tl) hsw hclos hcell hkind hnames hx hy hp h hs
end
theorem lines_of {h₀ h : Heap} {L : Addr} {tl : List (Addr × Obj)} {rv lv : List Value} {rs : List RowD} (N : News h₀ L h tl) (ha : RowsAll tl rv rs) (hF : Paired (revF tl) rv lv) : LinesAre lv rs := by
  induction ha generalizing lv with
  | nil => cases hF; exact ⟨rfl, fun k r e => by cases e⟩
  | cons hm _ ih =>
    cases hF with
    | cons e hr =>
      obtain ⟨i1, i2⟩ := ih hr
      obtain ⟨a', r', u1, u2, u3, u4, n', t, ea, hin, ey⟩ := e
      cases ea
      refine ⟨by rw [List.length_cons, List.length_cons, i1], fun k q hq => ?_⟩
      cases k with
      | zero =>
        cases hq
        have h2 := congrArg (fun o : Obj => (match o.data with
          | .seq xs _ => (match xs.toList with
            | .str z _ :: _ => z
            | _ => Str.ofString "")
          | _ => Str.ofString "")) (news_fun N hm hin)
        refine ⟨t, ?_⟩
        rw [ey]
        exact congrArg (fun z => some (Value.str z t)) (show r'.text = _ from (show _ = r'.text from h2).symm)
      | succ k => exact i2 k q hq
/-- the same text on both sides -/
def SS (v u : Value) : Prop := ∃ (x : Str) (t t' : Nat), v = Value.str x t ∧ u = Value.str x t'
theorem paired_len {l₁ l₂ : List Value} (h : Paired SS l₁ l₂) : l₂.length = l₁.length := by
  induction h with
  | nil => rfl
  | cons _ _ ih => rw [List.length_cons, List.length_cons, ih]
theorem oth_pairs {h₀ h : Heap} {L : Addr} {l : List (Addr × Obj)} {a1 a2 a3 a4 a5 : Addr} {t1 u1 t2 u2 t3 u3 t4 u4 t5 u5 n1 n2 n3 n4 n5 : Nat} (nU : News h₀ L h l) (h1 : (a1, pairO (Str.ofString "def g(): pass", 1) t1 u1 n1) ∈ l) (h2 : (a2, pairO (Str.ofString "@x", 2) t2 u2 n2) ∈ l) (h3 : (a3, pairO (Str.ofString "x = 1", 0) t3 u3 n3) ∈ l) (h4 : (a4, pairO (Str.ofString "class D:", 1) t4 u4 n4) ∈ l) (h5 : (a5, pairO (Str.ofString "", 0) t5 u5 n5) ∈ l) :
    PairsAll l [.ref a1, .ref a2, .ref a3, .ref a4, .ref a5] othersL := .cons h1 (.cons h2 (.cons h3 (.cons h4 (.cons h5 .nil))))
structure MainF (st sc R LN O Td Du : Addr) (vs rv lv ov : List Value) (nn nR nL nO : Nat) (rs : List RowD) (tl : List (Addr × Obj)) : Prop where
  offS : ∀ p ∈ tl, p.1 ≠ st
  offT : ∀ p ∈ tl, p.1 ≠ Td
  offD : ∀ p ∈ tl, p.1 ≠ Du
  sc : (sc, listOf vs.toArray nn) ∈ tl
  r : (R, listOf rv.toArray nR) ∈ tl
  ra : RowsAll tl rv rs
  ln : (LN, listOf lv.toArray nL) ∈ tl
  o : (O, listOf ov.toArray nO) ∈ tl
  oa : PairsAll tl ov othersL
theorem MainF.mono {st sc R LN O Td Du : Addr} {vs rv lv ov : List Value} {nn nR nL nO : Nat} {rs : List RowD} {tl tl' : List (Addr × Obj)} (b : MainF st sc R LN O Td Du vs rv lv ov nn nR nL nO rs tl) (hs : ∀ p ∈ tl, p ∈ tl')
    (o1 : ∀ p ∈ tl', p.1 ≠ st) (o2 : ∀ p ∈ tl', p.1 ≠ Td) (o3 : ∀ p ∈ tl', p.1 ≠ Du) : MainF st sc R LN O Td Du vs rv lv ov nn nR nL nO rs tl' :=
  ⟨o1, o2, o3, hs _ b.sc, hs _ b.r, b.ra.mono fun _ _ _ _ _ _ _ q => hs _ q, hs _ b.ln, hs _ b.o, b.oa.mono fun _ _ _ _ _ q => hs _ q⟩
abbrev mNames (st R LN O Td Du : Addr) : List (Str × Value) :=
  [(Str.ofString "state", Value.ref st), (Str.ofString "rows", Value.ref R), (Str.ofString "lines", Value.ref LN), (Str.ofString "others", Value.ref O), (Str.ofString "told", Value.ref Td), (Str.ofString "due", Value.ref Du)]
def MainJ (st sc R LN O Td Du : Addr) (vs rv lv ov : List Value) (nn nR nL nO n : Nat) (rs : List RowD) (k : Nat) (m : Str → Option Value) (nx : List (Addr × Obj)) : Prop :=
  ∃ (i : Int) (ti : Nat) (a : Int) (ta : Nat) (tv : List Value) (nT : Nat) (dv : List Value) (nD : Nat) (tl : List (Addr × Obj)), nx = (st, stO sc i ti a ta n) :: (Td, listOf tv.toArray nT) :: (Du, listOf dv.toArray nD) :: tl ∧
    MainF st sc R LN O Td Du vs rv lv ov nn nR nL nO rs tl ∧ 0 ≤ i ∧ 0 ≤ a ∧ a < 2147483647 ∧ Paired SS tv dv ∧ tv.length = k ∧ (∀ p ∈ mNames st R LN O Td Du, m p.1 = some p.2)
theorem norm3 {h₀ h : Heap} {L : Addr} {l : List (Addr × Obj)} {st Td Du : Addr} {o oT oD : Obj} (N : News h₀ L h l) (hst : (st, o) ∈ l) (hT : (Td, oT) ∈ l) (hD : (Du, oD) ∈ l) :
    ∃ tl, News h₀ L h ((st, o) :: (Td, oT) :: (Du, oD) :: tl) ∧ (∀ p ∈ tl, p.1 ≠ st) ∧ (∀ p ∈ tl, p.1 ≠ Td) ∧ (∀ p ∈ tl, p.1 ≠ Du) ∧ (∀ p ∈ l, @Ne Nat p.1 st → @Ne Nat p.1 Td → @Ne Nat p.1 Du → p ∈ tl) := by
  refine ⟨l.filter fun p => decide (p.1 ≠ st) && (decide (p.1 ≠ Td) && decide (p.1 ≠ Du)), news_sub N fun p hp => ?_, fun p hp => ?_, fun p hp => ?_, fun p hp => ?_, fun p hp h1 h2 h3 => ?_⟩
  · rcases List.mem_cons.mp hp with rfl | hp
    · exact hst
    · rcases List.mem_cons.mp hp with rfl | hp
      · exact hT
      · rcases List.mem_cons.mp hp with rfl | hp
        · exact hD
        · exact (List.mem_filter.mp hp).1
  · have := (List.mem_filter.mp hp).2; simp only [Bool.and_eq_true, decide_eq_true_eq] at this; exact this.1
  · have := (List.mem_filter.mp hp).2; simp only [Bool.and_eq_true, decide_eq_true_eq] at this; exact this.2.1
  · have := (List.mem_filter.mp hp).2; simp only [Bool.and_eq_true, decide_eq_true_eq] at this; exact this.2.2
  · refine List.mem_filter.mpr ⟨hp, ?_⟩
    simp only [Bool.and_eq_true, decide_eq_true_eq]
    exact ⟨h1, h2, h3⟩
theorem main_norm {h₀ h : Heap} {L : Addr} {l : List (Addr × Obj)} {st sc R LN O Td Du : Addr} {vs rv lv ov : List Value} {nn nR nL nO n ti ta : Nat} {i a : Int} {rs : List RowD} (N : News h₀ L h l)
    (hst : (st, stO sc i ti a ta n) ∈ l) (hT : (Td, listOf #[] 0) ∈ l) (hD : (Du, listOf #[] 0) ∈ l) (hs : (sc, listOf vs.toArray nn) ∈ l) (hr : (R, listOf rv.toArray nR) ∈ l) (ra : RowsAll l rv rs) (hln : (LN, listOf lv.toArray nL) ∈ l) (ho : (O, listOf ov.toArray nO) ∈ l) (oa : PairsAll l ov othersL)
    (hL : LinesAre lv rs) (h1 : 1 ≤ rs.length) (s1 : @Ne Nat sc st) (s2 : @Ne Nat sc Td) (s3 : @Ne Nat sc Du) (r1 : @Ne Nat R st) (l1 : @Ne Nat LN st) :
    ∃ tl, News h₀ L h ((st, stO sc i ti a ta n) :: (Td, listOf #[] 0) :: (Du, listOf #[] 0) :: tl) ∧ MainF st sc R LN O Td Du vs rv lv ov nn nR nL nO rs tl := by
  obtain ⟨tl, N', o1, o2, o3, f⟩ := norm3 N hst hT hD
  have z0 : szO (listOf #[] 0) = 0 := rfl
  have nz : ∀ {X : Addr} {xv : List Value} {nx : Nat} {Y : Addr}, (X, listOf xv.toArray nx) ∈ l → 1 ≤ xv.length → (Y, listOf #[] 0) ∈ l → @Ne Nat X Y := fun hX hx hY => ne_of_sz N hX hY (by rw [szO_list, z0]; omega)
  refine ⟨tl, N', o1, o2, o3, f _ hs s1 s2 s3, f _ hr r1 (nz hr (by rw [ra.length]; exact h1) hT) (nz hr (by rw [ra.length]; exact h1) hD), ra.mono fun _ _ _ _ _ _ _ q => f _ q (ne_of_sz N q hst (by show (4 : Nat) ≠ 3; decide)) (ne_of_sz N q hT (by show (4 : Nat) ≠ 0; decide)) (ne_of_sz N q hD (by show (4 : Nat) ≠ 0; decide)),
    f _ hln l1 (nz hln (by rw [hL.1]; exact h1) hT) (nz hln (by rw [hL.1]; exact h1) hD), f _ ho (ne_of_sz N ho hst (by rw [szO_list, oa.length]; show (5 : Nat) ≠ 3; decide)) (nz ho (by rw [oa.length]; decide) hT) (nz ho (by rw [oa.length]; decide) hD),
    oa.mono fun _ _ _ _ _ q => f _ q (ne_of_sz N q hst (by show (2 : Nat) ≠ 3; decide)) (ne_of_sz N q hT (by show (2 : Nat) ≠ 0; decide)) (ne_of_sz N q hD (by show (2 : Nat) ≠ 0; decide))⟩
section
variable {prog : Program} {w : World} {A : Around} {E : Value → Shared → Prop} {s : Shared} {env : Env} {h₀ : Heap} {x : Str} {body : List Stmt} {Q : Flow → Shared → Prop}
theorem main_iter {q : Addr} {b : Int} {t u v : Tok} {m₀ : Str → Option Value} {st sc R LN O Td Du : Addr} {vs rv lv ov : List Value} {nn nR nL nO n ti ta : Nat} {i a : Int} {rs : List RowD} {tl : List (Addr × Obj)}
    (hh : A.handled = none) (hr : IsRange s.heap q 0 b 1 t u v) (hb : b = (rs.length : Int)) (h1 : rs.length ≤ 10) (F : Fr h₀ env.locals s.heap m₀) (N : News h₀ env.locals s.heap ((st, stO sc i ti a ta n) :: (Td, listOf #[] 0) :: (Du, listOf #[] 0) :: tl))
    (hf : MainF st sc R LN O Td Du vs rv lv ov nn nR nL nO rs tl) (hi : 0 ≤ i) (ha : 0 ≤ a) (ha2 : a < 2147483647) (hok : ∀ r ∈ rs, RowOk r) (hk : ∀ p ∈ mNames st R LN O Td Du, m₀ p.1 = some p.2)
    (turn : ∀ (k : Nat) (i : Int) ti (a : Int) ta tv nT dv nD tl own (u : Str → Option Value) (t : Tok) h tk (r0 : RowD), MainF st sc R LN O Td Du vs rv lv ov nn nR nL nO rs tl → MainF st sc R LN O Td Du vs rv lv ov nn nR nL nO rs (tl ++ own) → (∀ p ∈ tl ++ own, p.1 ≠ st) → (∀ p ∈ tl ++ own, p.1 ≠ Td) → (∀ p ∈ tl ++ own, p.1 ≠ Du) →
      (sc, listOf vs.toArray nn) ∈ tl ++ own → (R, listOf rv.toArray nR) ∈ tl ++ own → RowsAll (tl ++ own) rv rs → (LN, listOf lv.toArray nL) ∈ tl ++ own → (O, listOf ov.toArray nO) ∈ tl ++ own → PairsAll (tl ++ own) ov othersL → OwnOff own (tl.map (·.1)) →
      k < rs.length → rs[k]? = some r0 → RowOk r0 → 0 ≤ i → 0 ≤ a → a < 2147483647 → Paired SS tv dv → tv.length = k → tv.length ≤ 10 → dv.length ≤ 10 →
      Fr h₀ env.locals h (fun y => if y = x then some (.int (k : Int) t) else kstB u (mNames st R LN O Td Du) y) → News h₀ env.locals h ((st, stO sc i ti a ta n) :: (Td, listOf tv.toArray nT) :: (Du, listOf dv.toArray nD) :: (tl ++ own)) →
      wpAny (model prog w) A (execs body env) (InvPostG h₀ env.locals (MainJ st sc R LN O Td Du vs rv lv ov nn nR nL nO n rs (k + 1)) own { s with heap := h, toks := tk } Q) E { s with heap := h, toks := tk })
    (done : ∀ (i : Int) ti (a : Int) ta tv nT dv nD tl (u : Str → Option Value) h tk, Paired SS tv dv → Fr h₀ env.locals h (kstB u (mNames st R LN O Td Du)) →
      News h₀ env.locals h ((st, stO sc i ti a ta n) :: (Td, listOf tv.toArray nT) :: (Du, listOf dv.toArray nD) :: tl) → Q .next { s with heap := h, toks := tk }) :
    wpAny (model prog w) A (pyIter (.ref q)) (fun it s₂ => LoopAtV prog w A h₀ env x body Q E it s₂) E s := by
  refine range_loop (MainJ st sc R LN O Td Du vs rv lv ov nn nR nL nO n rs) hh hr (by omega) (by omega) F N ⟨i, ti, a, ta, [], 0, [], 0, tl, rfl, hf, hi, ha, ha2, .nil, rfl, hk⟩ ?_ ?_
  · rintro k t m₁ nx h tk own hkb hoff ⟨i, ti, a, ta, tv, nT, dv, nD, tl, rfl, hf, hi, ha, ha2, hp, hl, hk⟩ F₁ N₁
    have hS : ∀ p ∈ own, p.1 ≠ st := fun p hp => hoff p hp st (.head _)
    have hT : ∀ p ∈ own, p.1 ≠ Td := fun p hp => hoff p hp Td (.tail _ (.head _))
    have hD : ∀ p ∈ own, p.1 ≠ Du := fun p hp => hoff p hp Du (.tail _ (.tail _ (.head _)))
    have hO : OwnOff own (tl.map (·.1)) := fun p hp c hc => hoff p hp c (.tail _ (.tail _ (.tail _ hc)))
    have oS : ∀ p ∈ tl ++ own, p.1 ≠ st := fun p hp => (List.mem_append.mp hp).elim (hf.offS p) (hS p)
    have oT : ∀ p ∈ tl ++ own, p.1 ≠ Td := fun p hp => (List.mem_append.mp hp).elim (hf.offT p) (hT p)
    have oD : ∀ p ∈ tl ++ own, p.1 ≠ Du := fun p hp => (List.mem_append.mp hp).elim (hf.offD p) (hD p)
    have hf' := hf.mono (tl' := tl ++ own) (fun p hp => List.mem_append_left _ hp) oS oT oD
    have em : (fun y => if y = x then some (Value.int (k : Int) t) else m₁ y) = fun y => if y = x then some (Value.int (k : Int) t) else kstB m₁ (mNames st R LN O Td Du) y := by
      funext y
      rw [kstB_eq hk fun _ => rfl]
    rw [em] at F₁
    have hkl : k < rs.length := by omega
    have hdl : dv.length = tv.length := paired_len hp
    exact turn k i ti a ta tv nT dv nD tl own m₁ t h tk rs[k] hf hf' oS oT oD hf'.sc hf'.r hf'.ra hf'.ln hf'.o hf'.oa hO hkl (List.getElem?_eq_getElem hkl) (hok _ (List.getElem_mem hkl)) hi ha ha2 hp hl (by omega) (by omega) F₁ N₁
  · rintro m₁ nx h tk ⟨i, ti, a, ta, tv, nT, dv, nD, tl, rfl, hf, hi, ha, ha2, hp, hl, hk⟩ F₁ N₁
    exact done i ti a ta tv nT dv nD tl m₁ h tk hp (fr_names _ F₁ hk) N₁
end
theorem main_end {h₀ h' : Heap} {L : Addr} {st sc R LN O Td Du : Addr} {vs rv lv ov tv dv : List Value} {nn nR nL nO n ti ta nT nD k tk t t' : Nat} {i a : Int} {rs : List RowD} {tl own news' : List (Addr × Obj)} {y : Str} {m' : Str → Option Value} {s₁ : Shared}
    (F : Fr h₀ L h' m') (N : News h₀ L h' news') (hst : (st, stO sc i ti a ta n) ∈ news') (hT : (Td, listOf (tv ++ [Value.str y t]).toArray nT) ∈ news') (hD : (Du, listOf (dv ++ [Value.str y t']).toArray nD) ∈ news') (hs : ∀ p ∈ tl ++ own, p ∈ news')
    (hO : OwnOff own (tl.map (·.1))) (hf' : MainF st sc R LN O Td Du vs rv lv ov nn nR nL nO rs (tl ++ own)) (hf : MainF st sc R LN O Td Du vs rv lv ov nn nR nL nO rs tl) (hi : 0 ≤ i) (ha : 0 ≤ a) (ha2 : a < 2147483647) (hp : Paired SS tv dv) (hl : tv.length = k) (hk : ∀ p ∈ mNames st R LN O Td Du, m' p.1 = some p.2) :
    InvEndG h₀ L (MainJ st sc R LN O Td Du vs rv lv ov nn nR nL nO n rs (k + 1)) own s₁ { s₁ with heap := h', toks := tk } := by
  refine ⟨h', tk, m', news', (st, stO sc i ti a ta n) :: (Td, listOf (tv ++ [Value.str y t]).toArray nT) :: (Du, listOf (dv ++ [Value.str y t']).toArray nD) :: tl, rfl, F, N, fun p hp => ?_, fun p hp => hs p (List.mem_append_right _ hp), fun p hp c hc => ?_,
    i, ti, a, ta, _, nT, _, nD, tl, rfl, hf, hi, ha, ha2, hp.snoc ⟨y, t, t', rfl, rfl⟩, by rw [List.length_append, hl]; rfl, hk⟩
  · rcases List.mem_cons.mp hp with rfl | hp
    · exact hst
    · rcases List.mem_cons.mp hp with rfl | hp
      · exact hT
      · rcases List.mem_cons.mp hp with rfl | hp
        · exact hD
        · exact hs p (List.mem_append_left _ hp)
  · rcases List.mem_cons.mp hc with rfl | hc
    · exact hf'.offS p (List.mem_append_right _ hp)
    · rcases List.mem_cons.mp hc with rfl | hc
      · exact hf'.offT p (List.mem_append_right _ hp)
      · rcases List.mem_cons.mp hc with rfl | hc
        · exact hf'.offD p (List.mem_append_right _ hp)
        · exact hO p hp c hc
theorem sort_dec {k : Int} (h0 : 0 ≤ k) (h2 : k ≤ 2) : (decide (k = 1) || decide (k = 2)) = decide (k ≠ 0) := by
  have : k = 0 ∨ k = 1 ∨ k = 2 := by omega
  rcases this with rfl | rfl | rfl <;> rfl
theorem lev_lo {v : Int} (h0 : 0 ≤ v) (h1 : v < 3) : 0 ≤ ([0, 4, 8] : List Int).getD v.toNat 0 := by
  have : v = 0 ∨ v = 1 ∨ v = 2 := by omega
  rcases this with rfl | rfl | rfl <;> decide
theorem oth_re {p : Str × Int} (h : p ∈ othersL) : reOk p.1 (decide (p.2 ≠ 0)) = true := by
  have g := List.all_eq_true.mp good4 p h
  exact re_cast rfl (sort_dec (goodWord_lo g) (goodWord_hi g)).symm (goodWord_re g)
theorem row_re {r : RowD} (h : RowOk r) (hs : r.sort ≠ -1) : reOk r.word (decide (r.sort ≠ 0)) = true :=
  re_cast rfl (sort_dec (by have := h.sortLo; omega) h.sortHi).symm h.re
section
variable {prog : Program} {w : World} {A : Around} {E : Value → Shared → Prop} {s : Shared} {h₀ : Heap} {L R X Td Du : Addr} {m : Str → Option Value} {news tl : List (Addr × Obj)} {rv tv dv : List Value} {rs : List RowD} {nR nx nT nD : Nat}
theorem row_at {value slice : PySem.Expr} {k : Nat} {t : Tok} {r0 : RowD} {Q : Value → Shared → Prop} (N : News h₀ L s.heap news) (hm : (R, listOf rv.toArray nR) ∈ news) (hp : RowsAll tl rv rs)
    (hl : rs.length ≤ 10) (hk : k < rs.length) (hr : rs[k]? = some r0) (h : ∀ a t1 t2 t3 t4 n, (a, rowO r0 t1 t2 t3 t4 n) ∈ tl → Q (.ref a) s)
    (hs : subscripted slice false (.ref R) (.int (k : Int) t) = operate [.ref R, .int (k : Int) t] (getItem (.ref R) (.int (k : Int) t)) := by with_unfolding_all rfl) :
    wpAny (model prog w) A (subscriptTail value slice (.ref R) (.int (k : Int) t)) Q E s :=
  row_sub N hm hp hl (by omega) (by omega) (fun a r t1 t2 t3 t4 n e hin => by
    rw [Int.toNat_natCast, hr] at e
    cases e
    exact h a t1 t2 t3 t4 n hin) hs
theorem list_copy {Q : Value → Shared → Prop} (F : Fr h₀ L s.heap m) (N : News h₀ L s.heap news) (hm : (X, listOf tv.toArray nx) ∈ news) (hL : LinesAre tv rs) (hl : rs.length ≤ 10)
    (h : ∀ D c h', Fr h₀ L h' m → News h₀ L h' ((D, listOf tv.toArray c) :: news) → (∀ q ∈ news, q.1 < D) → Q (.ref D) { s with heap := h' }) : wpAny (model prog w) A (call (.type "list") [.ref X]) Q E s :=
  list_copyK F N (PySem.IsL.isList (n := nx) (N _ hm).1) h (by rw [List.size_toArray, hL.1, sizeLine_eq]; omega)
theorem list_eq_ss {Q : Value → Shared → Prop} (N : News h₀ L s.heap news) (hT : (Td, listOf tv.toArray nT) ∈ news) (hD : (Du, listOf dv.toArray nD) ∈ news) (hp : Paired SS tv dv) (hu : A.units < cLine) (h : Q (.bool true) s) :
    wpAny (model prog w) A (compareOp .Eq (.ref Td) (.ref Du)) Q E s := by
  have e1 := (N _ hT).1
  have e2 := (N _ hD).1
  have hall : ∀ {l₁ l₂ : List Value}, Paired SS l₁ l₂ → l₁.length = l₂.length ∧ ∀ j (h1 : j < l₁.length) (h2 : j < l₂.length), SS l₁[j] l₂[j] := by
    intro l₁ l₂ q
    induction q with
    | nil => exact ⟨rfl, fun j h1 => absurd h1 (Nat.not_lt_zero _)⟩
    | cons e _ ih =>
      refine ⟨by rw [List.length_cons, List.length_cons, ih.1], fun j h1 h2 => ?_⟩
      cases j with
      | zero => exact e
      | succ j => exact ih.2 j (Nat.lt_of_succ_lt_succ h1) (Nat.lt_of_succ_lt_succ h2)
  obtain ⟨hlen, hj⟩ := hall hp
  refine cmp_ofEq (wpAny_richCompare_same_room (T := "list") ⟨_, e1, rfl⟩ ⟨_, e2, rfl⟩ F.slot_list_eq (call_meets F.slot_list_eq ⟨_, e1, rfl⟩ F.entry_list_eq (F.args_list_eq_2 _ _)
    (SeqAt.list_eqAt Td Du tv.toArray dv.toArray nT nD none none #[] #[] (by simpa using hlen) (fun _ => true)) ⟨e1, e2, ?_, ?_⟩) hu)
  · intro j h1 h2
    obtain ⟨z, t, t', q1, q2⟩ := hj j (by simpa using h1) (by simpa using h2)
    have c1 : tv.toArray[j] = Value.str z t := by simpa using q1
    have c2 : dv.toArray[j] = Value.str z t' := by simpa using q2
    rw [c1, c2]
    have q : SeqAt.EqAt A.in1 s (.str z t) (.str z t') (z == z) := SeqAt.EqAt.str_str z t z t'
    rw [beq_self_eq_true] at q
    exact q
  · have : ((List.range tv.toArray.size).all fun _ => true) = true := by simp
    rw [this]
    exact ⟨(by intro q; cases q), h⟩
end
end Mine
namespace Mine
theorem modeM1 : True := by
  w_top off
  trivial
local macro_rules | `(tactic| k_all) => `(tactic| assumption)
local macro_rules | `(tactic| k_mem) => `(tactic| assumption)
local macro_rules | `(tactic| walk_at "call ref") => `(tactic| (k_here; (with_reducible show wpAny _ _ (call (Value.ref 85) _ _) _ _ _); k_dflt (refine' build_spec ?k2 ?k3 ?k4 ?k5 ?k6 ?k7 ?k8 ?k9 ?u1 ?u2 ?u3 ?u4 ?u5 ?u6 ?u7 ?_; (case k2 => assumption); (case k3 => k_asm); (case k4 => k_asm); (case k5 => k_asm); (case k6 => k_asm); (case k7 => rfl); (case k8 => rfl); (case k9 => decide); (case u1 => omega); (case u2 => exact fun _ q => nomatch q); (case u3 => assumption); (case u4 => omega); (case u5 => decide); (case u6 => decide); (case u7 => decide)); intro R' rv' nR' rs' i' ti' a' ta' tl' h' tk' c1 c2 c3 c4 c5 c6 c7 c8 c9 c10 c11 F' N'))
local macro_rules | `(tactic| walk_at "exec Assign cons ListComp") => `(tactic| (k_here; refine Hold.mk ?_))
local macro_rules | `(tactic| walk_at "pyIter ref") => `(tactic| (k_here; (with_reducible show wpAny _ _ (pyIter (Value.ref _)) (CompAsk _ _ _ _ _ _ _ _ _ _ _ _ _) _ _); refine Hold.mk ?_))
local macro_rules | `(tactic| walk_at "exec For") => `(tactic| (k_here; refine Hold.mk ?_))
local macro_rules | `(tactic| walk_at "exec For Name Call cons nil") => `(tactic| (k_here; refine Hold.mk ?_))
local macro_rules | `(tactic| walk_at "eval Name") => `(tactic| (k_here; (with_reducible show wpAny _ _ (eval (Expr.Name _ _) (compEnvC _ _ _ _)) _ _ _); (refine' comp_local ?n ?v ?_; (case n => assumption); (case v => assumption))))
local macro_rules | `(tactic| walk_at "subscriptTail") => `(tactic| (k_here; (with_reducible show wpAny _ _ (subscriptTail _ _ (Value.ref _) (Value.int 0 _)) _ _ _); refine' row_item0 ?k1 ?k2 ?_ ?k8; (case k1 => k_asm); (case k2 => k_mem); (case k8 => with_unfolding_all rfl); k_whole))
local macro_rules | `(tactic| walk_at "call builtin:len") => `(tactic| (k_here; k_dflt (refine' row_len ?k1 ?k2 ?k3 ?k4 ?_; (case k1 => k_asm); (case k2 => k_mem); (case k3 => assumption); (case k4 => assumption)); intro t' k'))
local macro_rules | `(tactic| walk_at "call type:range") => `(tactic| (k_here; k_dflt ((rename Fr _ _ _ _ => lF'); (rename News _ _ _ _ => lN'); (with_unfolding_all refine' range1_rows lF' lN' ?_); intro h' tk' t1' u1' v1' hR' F' N' hk'; (try clear lF' lN'))))
local macro_rules | `(tactic| walk_at "pyIter ref") => `(tactic| (k_here; (with_reducible show wpAny _ _ (pyIter (Value.ref _)) (fun it s₂ => LoopAtV _ _ _ _ _ _ _ _ _ it s₂) _ _); k_dflt (refine Hold.mk ?_)))
local macro_rules | `(tactic| walk_at "subscriptTail") => `(tactic| (k_here; (with_reducible show wpAny _ _ (subscriptTail _ _ (Value.ref _) (Value.int (Int.ofNat _) _)) _ _ _); fail "x"))
local macro_rules | `(tactic| walk_at "subscriptTail") => `(tactic| (k_here; (with_reducible show wpAny _ _ (subscriptTail _ _ (Value.ref _) (Value.int _ _)) _ _ _); k_dflt (refine' pair_sub ?k1 ?k2 ?k3 ?k4 ?k5 ?k6 ?k7 ?_ ?k8; (case k1 => k_asm); (case k2 => k_mem); (case k3 => assumption); (case k4 => decide); (case k5 => decide); (case k6 => omega); (case k7 => (show _ < ((5 : Nat) : Int); omega)); (case k8 => with_unfolding_all rfl)); intro a' p' t1' t2' n' hp' hl' hm'))
local macro_rules | `(tactic| walk_at "subscriptTail") => `(tactic| (k_here; (with_reducible show wpAny _ _ (subscriptTail _ _ (Value.ref _) (Value.int 1 _)) _ _ _); k_dflt (refine' row_item1 ?k1 ?k2 ?_ ?k8; (case k1 => k_asm); (case k2 => k_mem); (case k8 => with_unfolding_all rfl)); k_whole))
local macro_rules | `(tactic| walk_at "subscriptTail") => `(tactic| (k_here; (with_reducible show wpAny _ _ (subscriptTail _ _ (Value.ref _) (Value.int 2 _)) _ _ _); k_dflt (refine' row_item2 ?k1 ?k2 ?_ ?k8; (case k1 => k_asm); (case k2 => k_mem); (case k8 => with_unfolding_all rfl)); k_whole))
local macro_rules | `(tactic| walk_at "subscriptTail") => `(tactic| (k_here; (with_reducible show wpAny _ _ (subscriptTail _ _ (Value.ref _) (Value.int 3 _)) _ _ _); k_dflt (refine' row_item3 ?k1 ?k2 ?_ ?k8; (case k1 => k_asm); (case k2 => k_mem); (case k8 => with_unfolding_all rfl)); k_whole))
local macro_rules | `(tactic| walk_at "subscriptTail") => `(tactic| (k_here; (with_reducible show wpAny _ _ (subscriptTail _ _ (Value.ref _) (Value.int (Nat.cast _) _)) _ _ _); k_dflt (refine' row_at ?k1 ?k2 ?k3 ?k4 ?k5 ?k6 ?_ ?k8; (case k1 => k_asm); (case k2 => k_mem); (case k3 => assumption); (case k4 => assumption); (case k5 => assumption); (case k6 => assumption); (case k8 => with_unfolding_all rfl)); intro a' t1' t2' t3' t4' n' hm'))
local macro_rules | `(tactic| walk_at "call ref") => `(tactic| (k_here; (with_reducible show wpAny _ _ (call (Value.ref 90) _ _) _ _ _); k_dflt (refine' due_spec ?k2 ?k3 ?k4 ?k5 ?k6 ?k7 ?k8 ?k9 ?u1 ?u2 ?u3 ?u4 ?u5 ?_; (case k2 => assumption); (case k3 => k_asm); (case k4 => k_asm); (case k5 => k_asm); (case k6 => k_asm); (case k7 => rfl); (case k8 => rfl); (case k9 => decide); (case u1 => decide); (case u2 => k_mem); (case u3 => exact RowsAll.mono (by assumption) (fun _ _ _ _ _ _ _ q => by repeat (first | exact q | refine List.Mem.tail _ ?_))); (case u4 => assumption); (case u5 => assumption)); intro h' tk' F' N'))
local macro_rules | `(tactic| walk_at "call ref") => `(tactic| (k_here; (with_reducible show wpAny _ _ (call (Value.ref 43) _ _) _ _ _); k_dflt (refine' one_spec ?hx ?k2 ?k3 ?k4 ?k5 ?k6 ?k7 ?k8 ?k9 ?u1 ?u2 ?u3 ?u4 ?u5 ?u6 ?_; (case hx => first | ((with_reducible show reOk (Prod.fst _) _ = true); exact oth_re (by assumption)) | ((with_reducible show reOk (RowD.word _) _ = true); exact row_re (by assumption) (by assumption))); (case k2 => assumption); (case k3 => k_asm); (case k4 => k_asm); (case k5 => k_asm); (case k6 => k_asm); (case k7 => rfl); (case k8 => rfl); (case k9 => decide); (case u1 => k_mem); (case u2 => assumption); (case u3 => omega); (case u4 => assumption); (case u5 => assumption); (case u6 => first | exact RowOk.lo (by assumption) | exact lev_lo (by assumption) (by assumption))); intro h' tk' F' N'))
local macro_rules | `(tactic| walk_at "call type:list") => `(tactic| (k_here; (with_reducible show wpAny _ _ (call (Value.type _) [Value.ref _]) _ _ _); k_dflt (refine' list_copy ?F ?N ?b ?l ?z ?_; (case F => k_asm); (case N => k_asm); (case b => k_mem); (case l => assumption); (case z => assumption)); intro D' c' h' F' N' l1; (try k_lt l1); (try k_sweep)))
local macro_rules | `(tactic| walk_at "InvEndG") => `(tactic| (k_here; refine Hold.mk ?_))
local macro_rules | `(tactic| walk_at "InvPostG") => `(tactic| (dsimp only [InvPostG]))
local macro_rules | `(tactic| walk_at "call ref") => `(tactic| (k_here; (with_reducible show wpAny _ _ (call (Value.ref 57) _ _) _ _ _); k_dflt (refine' next_spec ?k2 ?k3 ?k4 ?k5 ?k6 ?k7 ?k8 ?k9 ?u1 ?u2 ?u3 ?u4 ?u5 ?u6 ?u7 ?u8 ?_; (case k2 => assumption); (case k3 => k_asm); (case k4 => k_asm); (case k5 => k_asm); (case k6 => k_asm); (case k7 => rfl); (case k8 => rfl); (case k9 => decide); (case u1 => k_updF); (case u2 => k_mem); (case u3 => assumption); (case u4 => omega); (case u5 => assumption); (case u6 => assumption); (case u7 => assumption); (case u8 => decide)); intro v' tv' i' ti' a' ta' h' tk' c1 c2 c3 c4 c5 F' N'; (try dsimp only at N')))
local macro_rules | `(tactic| walk_at "compareOp Eq ref ref") => `(tactic| (k_here; k_dflt (refine' list_eq_ss ?N ?h ?z ?p ?u ?_; (case N => k_asm); (case h => k_mem); (case z => k_mem); (case p => assumption); (case u => decide))))

theorem main_holds : PySem.Challenge.rw_et5025_01.Holds := hd (by
  k_go0
  (all_goals try k_fold)
  k_steps
  unfold Hold
  (with_reducible rename RowsAll _ _ _ => hra9)
  refine' lines_comp hra9 ?w1 ?w2 ?w3 ?w4 ?w5 ?w6 ?w7 ?w8 ?_
  (case w1 => with_unfolding_all rfl); (case w2 => with_unfolding_all rfl); (case w3 => decide); (case w4 => rfl); (case w5 => decide); (case w6 => rfl); (case w7 => rfl); (case w8 => rfl)
  k_steps
  unfold Hold
  (rename Fr _ _ _ _ => F9); (rename News _ _ _ _ => N9)
  have hz9 := hra9.length
  refine comp_led (by rfl) (.tail _ (.head _)) (by omega) F9 N9 ?hq ?hd
  case hq =>
    intro I9 g9 up9 hI9
    refine ⟨fun C9 i9 v9 s9 m9 E9 hC9 hv9 hn9 hm9 hk9 ht9 => wpAny_pure ⟨rfl, _, _, rfl, fun _ _ e => e⟩, fun C9 i9 v9 s9 m9 E9 hC9 hv9 hp9 hn9 hm9 hk9 ht9 => ?_⟩
    obtain ⟨a9, q9, u1, u2, u3, u4, u5, rfl, hin9⟩ := rows_at hra9 hv9
    have N8 := news_up N9 up9 hI9 hk9
    k_steps
    all_goals first | exact ⟨_, _, _, _, _, _, _, _, rfl, hin9, rfl⟩ | exact ⟨_, _, rfl, fun _ _ e => e⟩
  case hd =>
    intro D9 nD9 h9 tk9 ys9 hF9 F8 N8 hoff9
    dsimp only
    obtain ⟨lv9, rfl⟩ : ∃ lv : List Value, ys9 = List.toArray lv := ⟨ys9.toList, Array.toList_inj.mp (List.toList_toArray).symm⟩
    have N0 := news_sub N9 (fun p (hp : p ∈ _) => List.Mem.tail _ (List.Mem.tail _ hp))
    rw [List.filter_eq_self.mpr (fun _ _ => rfl), List.toList_toArray] at hF9
    have hL9 := lines_of N0 hra9 hF9
    clear hF9 N9 F9
    k_steps
    unfold Hold
    (rename Fr _ _ _ _ => F9); (rename News _ _ _ _ => N9)
    have nrm9 := main_norm N9 (.tail _ (.tail _ (.tail _ (.tail _ (.tail _ (.tail _ (.tail _ (.tail _ (.tail _ (.head _)))))))))) (.tail _ (.head _)) (.head _) (by repeat (first | assumption | refine List.Mem.tail _ ?_)) (.tail _ (.tail _ (.tail _ (.tail _ (.tail _ (.tail _ (.tail _ (.tail _ (.tail _ (.tail _ (.head _)))))))))))
      (hra9.mono fun _ _ _ _ _ _ _ q => by repeat (first | exact q | refine List.Mem.tail _ ?_)) (.tail _ (.tail _ (.tail _ (.tail _ (.tail _ (.tail _ (.tail _ (.tail _ (.head _))))))))) (.tail _ (.tail _ (.head _))) (by unfold othersL; repeat (first | exact PairsAll.nil | refine PairsAll.cons (by k_mem) ?_)) hL9 (by assumption) (by omega) (by omega) (by omega) (by assumption) (fun e => hoff9 _ (.head _) e.symm)
    obtain ⟨tl7, N7, b7⟩ := nrm9
    clear N9
    (with_unfolding_all refine' For_invVF F9 ?k1 ?k2 ?_)
    (case k1 => exact rfl)
    (case k2 => exact rfl)
    have h7r := b7.r
    have h7a := b7.ra
    k_steps
    unfold Hold
    (rename Fr _ _ _ _ => F6); (rename News _ _ _ _ => N6); (rename IsRange _ _ _ _ _ _ _ _ => R6)
    with_unfolding_all refine' main_iter (by rfl) R6 rfl (by assumption) F6 N6 b7 (by assumption) (by assumption) (by assumption) (by assumption) ?ik ?turn ?done
    case ik => exact List.forall_mem_cons.mpr ⟨rfl, List.forall_mem_cons.mpr ⟨rfl, List.forall_mem_cons.mpr ⟨rfl, List.forall_mem_cons.mpr ⟨rfl, List.forall_mem_cons.mpr ⟨rfl, List.forall_mem_cons.mpr ⟨rfl, List.forall_mem_nil _⟩⟩⟩⟩⟩⟩
    case turn =>
      clear F6 N6 R6 b7 h7r h7a hra9
      intro k i ti a ta tv nT dv nD tl own u t h tk r0 hf hf' oS oT oD m1 m2 m3 m4 m5 m6 hO hkl hr0 hrok hi ha ha2 hp hl hlt hld F N
      k_steps
      all_goals
        unfold Hold
        (rename News _ _ _ _ => nE9)
        simp only [List.push_toArray] at nE9
        refine' main_end (by assumption) nE9 ?k1 ?k2 ?k3 ?k4 ?k5 ?k6 ?k7 ?k8 ?k9 ?u1 ?u2 ?u3 ?ik
        case k1 => repeat (first | exact List.Mem.head _ | refine List.Mem.tail _ ?_)
        case k2 => repeat (first | exact List.Mem.head _ | refine List.Mem.tail _ ?_)
        case k3 => repeat (first | exact List.Mem.head _ | refine List.Mem.tail _ ?_)
        case k4 => (intro p hp; repeat (first | exact hp | refine List.Mem.tail _ ?_))
        (case k5 => assumption); (case k6 => assumption); (case k7 => assumption); (case k8 => assumption); (case k9 => assumption); (case u1 => assumption); (case u2 => assumption); (case u3 => assumption)
        case ik => exact List.forall_mem_cons.mpr ⟨rfl, List.forall_mem_cons.mpr ⟨rfl, List.forall_mem_cons.mpr ⟨rfl, List.forall_mem_cons.mpr ⟨rfl, List.forall_mem_cons.mpr ⟨rfl, List.forall_mem_cons.mpr ⟨rfl, List.forall_mem_nil _⟩⟩⟩⟩⟩⟩
    case done =>
      clear F6 N6 R6 b7 h7r h7a hra9
      intro i ti a ta tv nT dv nD tl u h tk hp F N
      dsimp only
      iterate 5 (first | walk1 | (dsimp only; walk1))
      refine' list_eq_ss ?q1 ?q2 ?q3 ?q4 ?q5 ?_
      (case q1 => k_asm)
      (case q2 => k_mem)
      (case q3 => k_mem)
      (case q4 => assumption)
      (case q5 => show (4 + 3 : Nat) < 9900; decide)

      dsimp only
      (k_end; wrow_close))
end Mine
theorem PySem.Challenge.cw_et5025_01_holds : PySem.Challenge.rw_et5025_01.Holds := by
  exact Mine.main_holds
