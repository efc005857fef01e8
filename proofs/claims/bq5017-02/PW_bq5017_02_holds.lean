import PyProof.Rows.All
import Wide.All
import OpenK.AllK
import Wide.FinOn
import Lean
import PySem.Challenge.RW_bq5017_02
open PySem PySem.W PyProof.Rows
set_option Elab.async false
set_option linter.unusedVariables false
open PySem PySem.W PyProof.Rows
set_option maxRecDepth 100000 in
set_option maxHeartbeats 8000000 in
open_top hd for PySem.Challenge.rw_bq5017_02
section
theorem Mine.start1 : True := by w_top off; trivial
open PySem PySem.W PyProof.Rows PySem.Calls PySem.Spec
set_option maxRecDepth 100000
set_option maxHeartbeats 8000000
set_option linter.unusedVariables false
namespace Mine
theorem super2 {prog : Program} {w : World} {A : Around} {E : Value → Shared → Prop} {s : Shared} {h₀ : Heap} {L : Addr} {m : Str → Option Value} {news : List (Addr × Obj)} {K : Frag} {x C D : Addr} {ox : Obj} {odx : Option Obj} {cdD : ClassData} {Q : Value → Shared → Prop}
    (F : Fr h₀ L s.heap m) (X₀ : K.In h₀) (N : News h₀ L s.heap news) (I : InstAt s.heap x ox C odx) (hD : clsIn K D = some cdD) (hsub : mroIn K C (.ref D) = some true)
    (h : ∀ so h', Fr h₀ L h' m → News h₀ L h' ((so, ks_superObj D x C) :: news) → (∀ p ∈ news, p.1 < so) → Q (.ref so) { s with heap := h' }) :
    wpAny (model prog w) A (call (.type "super") [.ref D, .ref x]) Q E s := by
  have X : K.In s.heap := X₀.keeps F.keep
  obtain ⟨oD, e1, e2⟩ : ∃ oD, s.heap.get? D = some oD ∧ oD.data = .cls cdD := by
    unfold clsIn at hD
    split at hD
    · next ho => cases hD; exact ⟨_, X _ _ ho, rfl⟩
    · cases hD
  have no : ∀ c, ox.data ≠ .cls c := fun c e => by
    have q := I.no
    unfold notCls at q
    rw [e] at q
    cases q
  refine ks_wpAny_call_super (h := s.heap) (g := s.gens) (d := s.drawn) (t := s.toks) (os := s.os) e1 e2 I.at_ I.cls no (looks_mroIn X hsub) fun h' e k => ?_
  obtain ⟨F', N', l'⟩ := ks_newsPush (s := s) F N rfl e k
  exact h _ _ F' N' l'
local macro_rules | `(tactic| k_room) => `(tactic| ktr_room)
local macro_rules | `(tactic| k_all) => `(tactic| assumption)
theorem fm (x y : Int) (h : 0 < y) : 0 ≤ Int.fmod x y ∧ Int.fmod x y < y := by
  rw [Int.fmod_eq_emod_of_nonneg _ (by omega)]
  exact ⟨Int.emod_nonneg _ (by omega), Int.emod_lt_of_pos _ h⟩
theorem draw_ok {w : World} {p : Program} {loose : List Str} {mean : ExcName → Option Value} {mg mb : Str → Option Value}
  {dp un : Nat} {gd : Option (List Code)} {cn : Str} {cs : Scope} {a : Addr} {ccd : Value} {cl : List (Str × Addr)} {outer : List Env} {A₀ : Around} {base h₀ : Heap} {L : Addr} {m : Str → Option Value} {s : Shared} {Q E : Value → Shared → Prop}
  {b S : Addr} {vs : List Value} {ns : List Int} {pl st size : Int} {t1 t2 t3 : Tok} {n : Nat} {rest : List (Addr × Obj)} (hne : ∀ p ∈ rest, p.1 ≠ b)
  (B : Below A₀ base outer h₀) (F : Fr h₀ L s.heap m) (X : (hd.heap_39 w.params).In h₀)
  (N : News h₀ L s.heap ((b, PySem.W.listOf #[.ref S, .int pl t1, .int st t2] n) :: rest)) (T : Top p loose mean mg mb h₀) (hk : cs.kind = .function)
  (hS : base.IsList S vs.toArray) (hi : IntsAre vs ns) (hlen : ns.length ≤ 63) (hp : 0 ≤ pl) (hst : 0 ≤ st) (hst2 : st < 2147483647) (hsz : 0 < size) (hsz2 : size < 1000)
  (hdp : dp + 1 < recursionLimit) (hu : un + 8 < cLine)
  (ret : ∀ r t pl' t1' st' t2' n' h' tk', 0 ≤ r → r < size → 0 ≤ pl' → 0 ≤ st' → st' < 2147483647 → Fr h₀ L h' m → News h₀ L h' ((b, PySem.W.listOf #[.ref S, .int pl' t1', .int st' t2'] n') :: rest) → Q (.int r t) { s with heap := h', toks := tk' }) :
  wpAny (model PySem.Challenge.rw_bq5017_02.row.prog w) (ktrTop dp un gd cn cs L a ccd cl outer) (call (.ref 550) [.ref b, .int size t3]) Q E s := by
  revert X
  k_fill
  intro X
  refine wpAny_call ?_
  k_dflt cell_enter
  k_steps
  all_goals (refine ret _ _ _ _ _ _ _ _ _ ?_ ?_ ?_ ?_ ?_ (by assumption) (by assumption))
  all_goals (first | exact (fm _ _ hsz).1 | exact (fm _ _ hsz).2 | exact (fm _ 2147483647 (by decide)).1 | exact (fm _ 2147483647 (by decide)).2 | omega)

theorem draw_at {w : World} {p : Program} {loose : List Str} {mean : ExcName → Option Value} {mg mb : Str → Option Value}
  {dp un : Nat} {gd : Option (List Code)} {cn : Str} {cs : Scope} {a : Addr} {ccd : Value} {cl : List (Str × Addr)} {outer : List Env} {A₀ : Around} {base h₀ : Heap} {L : Addr} {m : Str → Option Value} {s : Shared} {Q E : Value → Shared → Prop}
  {b S : Addr} {vs : List Value} {ns : List Int} {pl st size : Int} {t1 t2 t3 : Tok} {n : Nat} {news : List (Addr × Obj)} {g : Obj → List (Addr × Obj)}
  (B : Below A₀ base outer h₀) (F : Fr h₀ L s.heap m) (X : (hd.heap_39 w.params).In h₀)
  (N : News h₀ L s.heap news) (U : UpdF b (PySem.W.listOf #[.ref S, .int pl t1, .int st t2] n) news g) (T : Top p loose mean mg mb h₀) (hk : cs.kind = .function)
  (hS : base.IsList S vs.toArray) (hi : IntsAre vs ns) (hlen : ns.length ≤ 63) (hp : 0 ≤ pl) (hst : 0 ≤ st) (hst2 : st < 2147483647) (hsz : 0 < size) (hsz2 : size < 1000)
  (hdp : dp + 1 < recursionLimit) (hu : un + 8 < cLine)
  (ret : ∀ r t pl' t1' st' t2' n' h' tk', 0 ≤ r → r < size → 0 ≤ pl' → 0 ≤ st' → st' < 2147483647 → Fr h₀ L h' m → News h₀ L h' (g (PySem.W.listOf #[.ref S, .int pl' t1', .int st' t2'] n')) → Q (.int r t) { s with heap := h', toks := tk' }) :
  wpAny (model PySem.Challenge.rw_bq5017_02.row.prog w) (ktrTop dp un gd cn cs L a ccd cl outer) (call (.ref 550) [.ref b, .int size t3]) Q E s := by
  obtain ⟨pre, post, rfl, hg, e1, e2⟩ := U.split
  refine draw_ok (t1 := t1) (t2 := t2) (n := n) (rest := pre ++ post) (fun p hp => (List.mem_append.mp hp).elim (e1 p) (e2 p)) B F X (fun p hp => N p ?_) T hk hS hi hlen hp hst hst2 hsz hsz2 hdp hu fun r t pl' t1' st' t2' n' h' tk' a1 a2 a3 a4 a5 F' N' => ret r t pl' t1' st' t2' n' h' tk' a1 a2 a3 a4 a5 F' (fun p hp => N' p ?_)
  · rcases List.mem_cons.mp hp with rfl | hp
    · exact List.mem_append.mpr (.inr (.head _))
    · exact (List.mem_append.mp hp).elim (fun h => List.mem_append.mpr (.inl h)) fun h => List.mem_append.mpr (.inr (.tail _ h))
  · rw [hg] at hp
    rcases List.mem_append.mp hp with hp | hp
    · exact .tail _ (List.mem_append.mpr (.inl hp))
    · rcases List.mem_cons.mp hp with rfl | hp
      · exact .head _
      · exact .tail _ (List.mem_append.mpr (.inr hp))
end Mine
end
section
local macro_rules | `(tactic| walk_at "own pad 0") => `(tactic| skip)
theorem Mine.start2 : True := by w_top off; trivial
open PySem PySem.W PyProof.Rows PySem.Calls PySem.Spec
set_option maxRecDepth 100000
set_option maxHeartbeats 8000000
set_option linter.unusedVariables false
namespace Mine
theorem allOf {d : Addr} {news : List (Addr × Obj)} (h : AllLt d news) : ∀ p ∈ news, p.1 < d := by
  induction news with
  | nil => intro p hp; cases hp
  | cons a r ih =>
    intro p hp
    rcases List.mem_cons.mp hp with e | e
    · rw [e]; exact h.1
    · exact ih h.2 p e
theorem neAll {d : Addr} {news : List (Addr × Obj)} (h : AllLt d news) : ∀ p ∈ news, p.1 ≠ d := fun p hp => Nat.ne_of_lt (allOf h p hp)
theorem sub2 {h₀ h : Heap} {L : Addr} {a b : Addr × Obj} {news l : List (Addr × Obj)} (N : News h₀ L h l) (ha : a ∈ l) (hb : b ∈ l) (hs : ∀ p ∈ news, p ∈ l) : News h₀ L h (a :: b :: news) := by
  intro p hp
  rcases List.mem_cons.mp hp with e | hp
  · rw [e]; exact N a ha
  · rcases List.mem_cons.mp hp with e | hp
    · rw [e]; exact N b hb
    · exact N p (hs p hp)
theorem sub0 {h₀ h : Heap} {L : Addr} {news l : List (Addr × Obj)} (N : News h₀ L h l) (hs : ∀ p ∈ news, p ∈ l) : News h₀ L h news := fun p hp => N p (hs p hp)
noncomputable abbrev rdict (P : Params) (t1 t2 t3 : Tok) (md : Addr) (v : Value) : Obj := dictOf [⟨PyData.keyHash P (Str.ofString "_BaseRenderer__methods"), .str (Str.ofString "_BaseRenderer__methods") t1, .ref md⟩, ⟨PyData.keyHash P (Str.ofString "_allow_harmful_protocols"), .str (Str.ofString "_allow_harmful_protocols") t2, .none⟩, ⟨PyData.keyHash P (Str.ofString "_escape"), .str (Str.ofString "_escape") t3, v⟩] 3
end Mine
local macro_rules | `(tactic| k_room) => `(tactic| ktr_room)
local macro_rules | `(tactic| k_all) => `(tactic| first | assumption | exact Mine.neAll (by assumption))
local macro_rules | `(tactic| k_lt $h:ident) => `(tactic| (replace $h := allLt_of $h; simp only [AllLt, and_true] at $h:ident; (repeat (have lx := And.left $h; replace $h := And.right $h))))
local macro_rules | `(tactic| ktr_enter) => `(tactic| (refine' code_def ?k1 ?k2 ?k3 ?k4 ?k5 ?kA ?kF ?kK ?k6 ?k7 ?k8 ?k9 ?kB ?_ ?c2 ?c3 ?c4 ?c5; (case kA => exact rfl); (case kF => exact rfl); (case kK => first | exact rfl | assumption); (case k1 => k_asm); (case k2 => k_asm); (case k3 => k_asm); (case k4 => k_asm); (case k5 => k_asm); (case k6 => k_is); (case k7 => k_is); (case k8 => ktr_room); (case k9 => first | exact BindsTo.of_eq rfl | exact binds_K (by k_in) rfl (by k_is) rfl rfl rfl); (case c5 => decide); (case kB => exact locs rfl); (case c2 => exact rfl); (case c3 => exact rfl); (case c4 => exact rfl); k_whole; intro g' L' h' FG' F' N' B' X' T'; (try dsimp only); (try k_lift B'); (try k_fold)))
local macro_rules | `(tactic| walk_at "call ref") => `(tactic| (k_here; k_dflt (
  (refine' call_cls ?k1 ?k2 ?k3 ?k4 ?k5 ?k6 ?_; (case k1 => k_asm); (case k2 => k_asm); (case k3 => k_asm); (case k4 => k_is); (case k5 => k_is); (case k6 => k_is); intro x' d' h' F' N' l1 l2; (try k_lt l1); (try k_lt2 l2); 
   (refine' ks_code_super ?k1 ?k2 ?k3 ?k4 ?k5 ?kA ?kF ?kK ?k6 ?k7 ?k8 ?k9 ?kB ?_ ?c1 ?c2 ?c3 ?c4; (case kA => exact rfl); (case kF => exact rfl); (case kK => first | exact rfl | assumption); (case k1 => k_asm); (case k2 => k_asm); (case k3 => k_asm); (case k4 => k_asm); (case k5 => k_asm); (case k6 => k_is); (case k7 => k_is); (case k8 => ktr_room); (case k9 => first | exact BindsTo.of_eq rfl | exact binds_K (by k_in) rfl (by k_is) rfl rfl rfl); (case kB => exact locs rfl); (case c1 => decide); (case c2 => exact rfl); (case c3 => exact rfl); (case c4 => exact rfl); intro g' L' h' FG' F' N' B' X' T' l1; (try k_lt l1); (try dsimp only); (try k_lift B'))))))
local macro_rules | `(tactic| walk_at "eval Name") => `(tactic| (k_here; k_dflt (refine' nameX_B ?F ?X ?T ?e ?v ?n ?_ ?a ?b; (case F => k_asm); (case X => k_asm); (case T => k_asm); (case a => rfl); (case b => rfl); (case e => k_is); (case v => first | boot_by_name | kernel_rfl); (case n => decide); k_whole)))
local macro_rules | `(tactic| walk_at "call type:super") => `(tactic| (k_here; k_dflt (refine' Mine.super2 ?F ?X ?N ?I ?c ?d ?_; (case F => k_asm); (case X => k_asm); (case N => k_asm); (case I => k_inst); (case c => k_is); (case d => k_is);  intro so' h' F' N' l1; (try k_lt l1))))

local macro_rules | `(tactic| walk_at "ite") => `(tactic| (first | refine ite_neg (by decide) ?_ | refine ite_pos (by decide) ?_))
namespace Mine
section
variable {w : World} {p : Program} {loose : List Str} {mean : ExcName → Option Value} {mg mb : Str → Option Value}
  {dp un : Nat} {gd : Option (List Code)} {cn : Str} {cs : Scope} {a : Addr} {ccd : Value} {cl : List (Str × Addr)} {outer : List Env} {A₀ : Around} {base h₀ : Heap} {L : Addr} {m : Str → Option Value} {s : Shared} {Q E : Value → Shared → Prop} {news : List (Addr × Obj)}

theorem new_html (B : Below A₀ base outer h₀) (F : Fr h₀ L s.heap m) (X : (hd.heap_39 w.params).In h₀) (N : News h₀ L s.heap news) (T : Top p loose mean mg mb h₀) (hk : cs.kind = .function)
  (hdp : dp + 10 < recursionLimit) (hu : un + 30 < cLine)
  (ret : ∀ x d md t1 t2 t3 h' tk', (∀ p ∈ news, p.1 < d) → d < x → Fr h₀ L h' m → News h₀ L h' ((x, instObj 487 d) :: (d, rdict w.params t1 t2 t3 md (.bool true)) :: news) → Q (.ref x) { s with heap := h', toks := tk' }) :
  wpAny (model PySem.Challenge.rw_bq5017_02.row.prog w) (ktrTop dp un gd cn cs L a ccd cl outer) (call (.ref 487) [] []) Q E s := by
  revert X
  k_fill
  intro X
  k_steps
  all_goals (refine ret _ _ _ _ _ _ _ _ ?p1 ?p2 (by assumption) (sub2 (by assumption) (by k_mem) (by k_mem) (by intro p hp; repeat (first | assumption | refine List.Mem.tail _ ?_))))
  all_goals first | omega | exact allOf (by assumption) | assumption
theorem new_html0 (B : Below A₀ base outer h₀) (F : Fr h₀ L s.heap m) (X : (hd.heap_39 w.params).In h₀) (N : News h₀ L s.heap news) (T : Top p loose mean mg mb h₀) (hk : cs.kind = .function)
  (hdp : dp + 10 < recursionLimit) (hu : un + 30 < cLine)
  (ret : ∀ x d md t1 t2 t3 h' tk', (∀ p ∈ news, p.1 < d) → d < x → Fr h₀ L h' m → News h₀ L h' ((x, instObj 487 d) :: (d, rdict w.params t1 t2 t3 md (.bool false)) :: news) → Q (.ref x) { s with heap := h', toks := tk' }) :
  wpAny (model PySem.Challenge.rw_bq5017_02.row.prog w) (ktrTop dp un gd cn cs L a ccd cl outer) (call (.ref 487) [.bool false] []) Q E s := by
  revert X
  k_fill
  intro X
  k_steps
  all_goals (refine ret _ _ _ _ _ _ _ _ ?p1 ?p2 (by assumption) (sub2 (by assumption) (by k_mem) (by k_mem) (by intro p hp; repeat (first | assumption | refine List.Mem.tail _ ?_))))
  all_goals first | omega | exact allOf (by assumption) | assumption
theorem new_state (B : Below A₀ base outer h₀) (F : Fr h₀ L s.heap m) (X : (hd.heap_39 w.params).In h₀) (N : News h₀ L s.heap news) (T : Top p loose mean mg mb h₀) (hk : cs.kind = .function)
  (hdp : dp + 10 < recursionLimit) (hu : un + 30 < cLine)
  (ret : ∀ x h' tk', Fr h₀ L h' m → News h₀ L h' news → Q (.ref x) { s with heap := h', toks := tk' }) :
  wpAny (model PySem.Challenge.rw_bq5017_02.row.prog w) (ktrTop dp un gd cn cs L a ccd cl outer) (call (.ref 163) [] []) Q E s := by
  revert X
  k_fill
  intro X
  k_dflt (refine' call_cls ?k1 ?k2 ?k3 ?k4 ?k5 ?k6 ?_; (case k1 => k_asm); (case k2 => k_asm); (case k3 => k_asm); (case k4 => k_is); (case k5 => k_is); (case k6 => k_is); intro x' d' h' F' N' l1 l2; (try k_lt l1); (try k_lt2 l2); ktr_enter)
  k_steps
  all_goals (exact ret _ _ _ (by assumption) (sub0 (by assumption) (by intro p hp; repeat (first | assumption | refine List.Mem.tail _ ?_))))
end
end Mine
end
section
open PySem PySem.W PyProof.Rows PySem.Builtin.Re
set_option maxRecDepth 100000
set_option maxHeartbeats 8000000
set_option linter.unusedVariables false
namespace Mine
def driveK : Nat → Sre.M → Option Sre.M
  | 0, _ => none
  | k + 1, m => if (m.runFor reTurnSteps).outcome.isSome then some (m.runFor reTurnSteps) else driveK k (m.runFor reTurnSteps)
section
variable {M : Model} {A : Around} {E : Value → Shared → Prop} {s : Shared}
theorem drive_ok {Q : Sre.M → Shared → Prop} {m' : Sre.M} (hq : Q m' s) : ∀ (k n : Nat) (m : Sre.M), k ≤ n → driveK k m = some m' → wpAny M A (reDrive n m) Q E s := by
  intro k
  induction k with
  | zero => intro n m _ h; cases h
  | succ k ih =>
    intro n m hn h
    cases n with
    | zero => omega
    | succ n =>
      unfold driveK at h
      unfold reDrive
      by_cases c : (m.runFor reTurnSteps).outcome.isSome = true
      · rw [if_pos c] at h
        cases h
        show wpAny M A (if (m.runFor reTurnSteps).outcome.isSome = true then _ else _) Q E s
        rw [if_pos c]
        exact wpAny_pure hq
      · rw [if_neg c] at h
        show wpAny M A (if (m.runFor reTurnSteps).outcome.isSome = true then _ else _) Q E s
        rw [if_neg c]
        exact wpAny_bind (wpAny_rule (ih n _ (by omega) h))
theorem rules_ok {Q : PUnit → Shared → Prop} {c : Nat → Bool} {f : Nat → String} (hq : Q ⟨⟩ s) : ∀ l : List Nat,
    wpAny M A (forIn l PUnit.unit fun i _ => if c i = true then (do rule (f i); pure (ForInStep.yield PUnit.unit)) else pure (ForInStep.yield PUnit.unit)) Q E s := by
  intro l
  induction l with
  | nil => exact wpAny_pure hq
  | cons i l ih =>
    rw [List.forIn_cons]
    refine wpAny_bind ?_
    by_cases h : c i = true
    · rw [if_pos h]; exact wpAny_bind (wpAny_rule (wpAny_pure ih))
    · rw [if_neg h]; exact wpAny_pure ih
def endOf (m : Sre.M) : Option Bool := match m.outcome with
  | some .matched => some true
  | some .failed => some false
  | _ => none
theorem runEnd {Q : Option Sre.M → Shared → Prop} {m m' : Sre.M} (k : Nat) (hk : k ≤ 2 ^ 64) (h : driveK k m = some m') (b : Bool) (he : endOf m' = some b) (hq : Q (if b then some m' else none) s) : wpAny M A (reRunToEnd m) Q E s := by
  unfold reRunToEnd
  refine wpAny_bind (drive_ok ?_ k _ m hk h)
  refine wpAny_bind (rules_ok ?_ _)
  unfold endOf at he
  split at he
  · next e => rw [e]; cases he; exact wpAny_pure hq
  · next e => rw [e]; cases he; exact wpAny_pure hq
  · cases he
end
end Mine
end
section
open PySem PySem.W PyProof.Rows PySem.Builtin.Re
set_option maxRecDepth 100000
set_option maxHeartbeats 8000000
set_option linter.unusedVariables false
namespace Mine
theorem plainAttrs_pat : PlainAttrs "re.Pattern" :=
  ⟨⟨"object.__getattribute__", by rw [typeLookup_type, builtinLookup_eq_fast]; kernel_rfl, by decide +kernel⟩, by rw [typeLookup_type, builtinLookup_eq_fast]; kernel_rfl⟩
theorem slot_fullmatch : Slot "re.Pattern" "fullmatch" "re.Pattern.fullmatch" :=
  .of (owner := "re.Pattern") (n := "fullmatch") (by rw [typeLookup_type, builtinLookup_eq_fast]; kernel_rfl) (by decide +kernel) (by decide +kernel) (by decide +kernel)
    (by first | exact .inl (by decide +kernel) | exact .inr (by decide +kernel)) (by rw [isSubtype_type]; kernel_rfl)
theorem type_fullmatch : typeOf (.builtin "re.Pattern.fullmatch") = pure (.type "method_descriptor") := by show builtinType _ = _; rw [builtinType_eq_fast]; kernel_rfl
theorem entry_fullmatch : entryFor table "re.Pattern.fullmatch" = some Builtin.«re.Pattern.fullmatch» := entryFor_of_tree (by kernel_rfl)
theorem args_fullmatch (a b : Value) : argsOk "re.Pattern.fullmatch" ⟨[a, b], []⟩ := by unfold argsOk; kernel_rfl
theorem named1 (x : Value) : reNamed "re.Pattern.fullmatch" "fullmatch" ["string", "pos", "endpos"] 1 [x] [] = pure [some x, none, none] := by rfl
end Mine
end
section
open PySem PySem.W PyProof.Rows PySem.Builtin.Re
set_option maxRecDepth 100000
set_option maxHeartbeats 8000000
set_option linter.unusedVariables false
namespace Mine
abbrev patObj (pat : Value) (fl : Value) (g : Nat) (tg tk : Tok) (C : Addr) : Obj := ⟨.type "re.Pattern", none, .fields #[pat, fl, .int g tg, .none, .none, .ref C, .int 0 tk], #[]⟩
abbrev codesOf (cs : Array Value) : Array Nat := (cs.map reRawOf).map (·.toNat)
section
variable {prog : Program} {w : World} {A : Around} {E : Value → Shared → Prop} {s : Shared} {h₀ : Heap} {L : Addr} {m : Str → Option Value} {news : List (Addr × Obj)}
theorem target_ok {P C : Addr} {pat fl : Value} {g : Nat} {tg tk t : Tok} {cs : Array Value} {n : Nat} {x : Str} {Q : ReTarget → Shared → Prop} (hP : s.heap.get? P = some (patObj pat fl g tg tk C)) (hC : s.heap.get? C = some ⟨.type "tuple", none, .seq cs n, #[]⟩)
    (hq : Q { pattern := .ref P, string := .str x t, code := codesOf cs, text := x.cps, kind := 0, groups := g, pos := min (0 : Int).toNat x.cps.size, lim := min ((2 : Int) ^ 63 - 1).toNat x.cps.size } s) :
    wpAny (model prog w) A (reTarget "re.Pattern.fullmatch" "fullmatch" ⟨[.ref P, .str x t], []⟩) Q E s := by
  unfold reTarget
  dsimp only
  rw [named1]
  refine wpAny_bind (wpAny_pure ?_)
  dsimp only
  refine wpAny_bind (wpAny_pure (wpAny_bind (wpAny_pure ?_)))
  refine wpAny_bind (wpAny_fieldsOf hP rfl ?_)
  refine wpAny_bind ?_
  unfold reTextOf
  repeat wp_step
  exact hq
theorem fullmatch_get {P C : Addr} {pat fl : Value} {g : Nat} {tg tk : Tok} {pl : Sem Bool} {Q : Value × List Value → Shared → Prop} (hP : s.heap.get? P = some (patObj pat fl g tg tk C)) (h : Q (.builtin "re.Pattern.fullmatch", [.ref P]) s) :
    wpAny (model prog w) A (getMethod (.ref P) "fullmatch" pl) Q E s :=
  getMethod_builtin (T := "re.Pattern") ⟨_, hP, rfl⟩ plainAttrs_pat slot_fullmatch type_fullmatch (fun a e => by cases e; exact ⟨_, hP, rfl⟩) h
theorem newMatch0 {pat str : Value} {pos lim : Nat} {m' : Sre.M} {Q : Value → Shared → Prop} (F : Fr h₀ L s.heap m) (N : News h₀ L s.heap news)
    (h1 : ∀ q vs h', Fr h₀ L h' m → News h₀ L h' ((q, ⟨.type "re.Match", none, .fields vs, #[]⟩) :: news) → (∀ p ∈ news, p.1 < q) → Q (.ref q) { s with heap := h' }) :
    wpAny (model prog w) A (reNewMatch pat str 0 pos lim m') Q E s := by
  unfold reNewMatch newFields
  refine wpAny_bind (newTuple_N F N (fun h1' F1 N1 => ?_) (by simp [sizeLine_eq]))
  refine wpAny_newObj_type ?_ (by simp [sizeOk, sizeLine_eq])
  exact h1 _ _ _ (F1.push _) (fun p hp => News.push F1 N1 _ (by rfl) p (by rcases List.mem_cons.mp hp with e | hp; exact e ▸ List.Mem.head _; exact List.Mem.tail _ (List.Mem.tail _ hp))) (fun p hp => Heap.lt_size (N1 p (List.Mem.tail _ hp)).1)
theorem fullmatch_ok {P C : Addr} {pat fl : Value} {tg tk t : Tok} {cs : Array Value} {n : Nat} {x : Str} {Q : Value → Shared → Prop} (F : Fr h₀ L s.heap m) (N : News h₀ L s.heap news)
    (hP : s.heap.get? P = some (patObj pat fl 0 tg tk C)) (hC : s.heap.get? C = some ⟨.type "tuple", none, .seq cs n, #[]⟩)
    {m' : Sre.M} (k : Nat) (hk : k ≤ 2 ^ 64) (h : driveK k (Sre.forMatch (codesOf cs) x.cps 0 (min (0 : Int).toNat x.cps.size) (min ((2 : Int) ^ 63 - 1).toNat x.cps.size) true false) = some m') (b : Bool) (he : endOf m' = some b)
    (h1 : b = true → ∀ q vs h', Fr h₀ L h' m → News h₀ L h' ((q, ⟨.type "re.Match", none, .fields vs, #[]⟩) :: news) → (∀ p ∈ news, p.1 < q) → Q (.ref q) { s with heap := h' })
    (h0 : b = false → Q .none s) :
    wpAny (model prog w) A (call (.builtin "re.Pattern.fullmatch") [.ref P, .str x t]) Q E s := by
  refine wpAny_call_entry slot_fullmatch ⟨_, hP, rfl⟩ entry_fullmatch ?_ (args_fullmatch _ _)
  unfold Builtin.«re.Pattern.fullmatch»
  refine wpAny_bind (target_ok hP hC ?_)
  unfold reAnswer
  refine wpAny_bind (runEnd k hk h b he ?_)
  cases b with
  | false => exact wpAny_pure ⟨_, rfl, h0 rfl⟩
  | true => exact wpAny_bind (newMatch0 F N fun q vs h' F' N' l => wpAny_pure ⟨_, rfl, h1 rfl q vs h' F' N' l⟩)
end
end Mine
end
section
open PySem PySem.W PyProof.Rows PySem.Builtin.Re
set_option maxRecDepth 100000
set_option maxHeartbeats 8000000
set_option linter.unusedVariables false
namespace Mine
def rxAttr : Array Nat := #[14, 4, 0, 1, 4294967295, 6, 0, 13, 11, 9, 0, 67108864, 2281701374, 134217726, 0, 0, 0, 0, 0, 24, 16, 0, 4294967295, 13, 11, 9, 0, 134176768, 2281701374, 134217726, 0, 0, 0, 0, 0, 1, 6, 5, 1]
def nameRes (x : Str) : Option Bool := (driveK 100 (Sre.forMatch rxAttr x.cps 0 (min (0 : Int).toNat x.cps.size) (min ((2 : Int) ^ 63 - 1).toNat x.cps.size) true false)).bind endOf
def rightNames : List Str := ["a", "Z", "_", ":", "href", "data-x", "x.y", "a:b", "_9", "A1-_.:", "xmlns:xlink"]
def wrongNames : List Str := ["", "1a", "-a", ".a", "a b", "a\n", "\na", "a=", "a\"", "a>", "a\t", "é", "aé", "a/", " a", "a'", "a<"]
theorem right_ok : rightNames.all (fun x => nameRes x == some true) = true := by decide +kernel
theorem wrong_ok : wrongNames.all (fun x => nameRes x == some false) = true := by decide +kernel
end Mine
end
section
open PySem PySem.W PyProof.Rows PySem.Calls PySem.Spec
set_option maxRecDepth 100000
set_option maxHeartbeats 8000000
set_option linter.unusedVariables false
namespace Mine
section
variable {prog : Program} {w : World} {α : Type} {M : Model} {A : Around} {E : Value → Shared → Prop} {s : Shared}
theorem gen_toks {t : Sem α} {Q : α → Shared → Prop} {h : Heap} {g : Array GenState} {d : Drawn} {k : Nat} {o : OsState} (hk : 0 < k) (q : ∀ tk, 0 < tk → wpAny M A t Q E ⟨h, g, d, tk, o⟩) : wpAny M A t Q E ⟨h, g, d, k, o⟩ := q k hk
theorem execs_cons_T {env : Env} {st : Stmt} {rest : List Stmt} {Q : Flow → Shared → Prop} (h0 : 0 < s.toks)
    (h : wpAny M A (exec st env) (fun f s' => 0 < s'.toks → (match f with | .next => wpAny M A (execs rest env) Q E s' | f => Q f s')) E s) : wpAny M A (execs (st :: rest) env) Q E s :=
  wpAny_execs_cons (wpAny_with_toks (n := 1) h0 (wpAny_mono h (fun _ _ x hn => x hn) fun _ _ x _ => x))
theorem subL {h₀ h : Heap} {L : Addr} {l l' : List (Addr × Obj)} (N : News h₀ L h l) (hs : ∀ p ∈ l', p ∈ l) : News h₀ L h l' := fun p hp => N p (hs p hp)
open Builtin Builtin.Str in
theorem len_replace (x y z : Str) : (Txt.replace x y z).length ≤ x.length + (x.length + 1) * z.length := by
  unfold Txt.replace
  split
  · exact Nat.le_add_right _ _
  · have h1 := StrLaws.occ_length_le x y 0 x.length (x.length + 1)
    have hy : (glued y (partsBetween x (occurrences x y 0 x.length (x.length + 1)) y.length)).length = x.length := by rw [StrLaws.glued_between_self]
    rw [size_glued, length_partsBetween, Nat.add_sub_cancel] at hy
    rw [size_glued, length_partsBetween, Nat.add_sub_cancel]
    have h2 : (occurrences x y 0 x.length (x.length + 1)).length * z.length ≤ (x.length + 1) * z.length := Nat.mul_le_mul_right _ h1
    omega
theorem replaceT {x y z : Str} {t u v : Nat} {Q : Value → Shared → Prop} (hp : 0 < s.toks) (hu : u ≠ 0) (hv : v ≠ 0) (huv : u ≠ v) (hyz : (y == z) = false) (hx : x.length ≤ 1048576) (hz : z.length ≤ 6)
    (hq : ∀ t' k, 0 < k → (Txt.replace x y z).length ≤ 7 * x.length + 6 → Q (.str (Txt.replace x y z) t') { s with toks := k }) : wpAny (model prog w) A (call (.builtin "str.replace") [.str x t, .str y u, .str z v]) Q E s :=
  wpAny_with_toks (n := 1) hp (SC.replaceW hu hv huv hyz hx (by omega) fun t' k hk => hq t' k hk (by
    have h1 := len_replace x y z
    have h2 : (x.length + 1) * z.length ≤ (x.length + 1) * 6 := Nat.mul_le_mul_left _ hz
    omega))
end
end Mine
end
section
theorem Mine.start8 : True := by w_top off; trivial
open PySem PySem.W PyProof.Rows PySem.Calls PySem.Spec
set_option maxRecDepth 100000
set_option maxHeartbeats 8000000
set_option linter.unusedVariables false
local macro_rules | `(tactic| k_room) => `(tactic| ktr_room)
local macro_rules | `(tactic| k_all) => `(tactic| first | assumption | exact Mine.neAll (by assumption))
local macro_rules | `(tactic| k_lt $h:ident) => `(tactic| (replace $h := allLt_of $h; simp only [AllLt, and_true] at $h:ident; (repeat (have lx := And.left $h; replace $h := And.right $h))))
local macro_rules | `(tactic| ktr_enter) => `(tactic| (refine' code_def ?k1 ?k2 ?k3 ?k4 ?k5 ?kA ?kF ?kK ?k6 ?k7 ?k8 ?k9 ?kB ?_ ?c2 ?c3 ?c4 ?c5; (case kA => exact rfl); (case kF => exact rfl); (case kK => first | exact rfl | assumption); (case k1 => k_asm); (case k2 => k_asm); (case k3 => k_asm); (case k4 => k_asm); (case k5 => k_asm); (case k6 => k_is); (case k7 => k_is); (case k8 => ktr_room); (case k9 => first | exact BindsTo.of_eq rfl | exact binds_K (by k_in) rfl (by k_is) rfl rfl rfl); (case c5 => decide); (case kB => exact locs rfl); (case c2 => exact rfl); (case c3 => exact rfl); (case c4 => exact rfl); k_whole; intro g' L' h' FG' F' N' B' X' T'; (try dsimp only); (try k_lift B'); (try k_fold)))
local macro_rules | `(tactic| walk_at "call ref") => `(tactic| (k_here; k_dflt (
  (refine' call_cls ?k1 ?k2 ?k3 ?k4 ?k5 ?k6 ?_; (case k1 => k_asm); (case k2 => k_asm); (case k3 => k_asm); (case k4 => k_is); (case k5 => k_is); (case k6 => k_is); intro x' d' h' F' N' l1 l2; (try k_lt l1); (try k_lt2 l2); 
   (refine' ks_code_super ?k1 ?k2 ?k3 ?k4 ?k5 ?kA ?kF ?kK ?k6 ?k7 ?k8 ?k9 ?kB ?_ ?c1 ?c2 ?c3 ?c4; (case kA => exact rfl); (case kF => exact rfl); (case kK => first | exact rfl | assumption); (case k1 => k_asm); (case k2 => k_asm); (case k3 => k_asm); (case k4 => k_asm); (case k5 => k_asm); (case k6 => k_is); (case k7 => k_is); (case k8 => ktr_room); (case k9 => first | exact BindsTo.of_eq rfl | exact binds_K (by k_in) rfl (by k_is) rfl rfl rfl); (case kB => exact locs rfl); (case c1 => decide); (case c2 => exact rfl); (case c3 => exact rfl); (case c4 => exact rfl); intro g' L' h' FG' F' N' B' X' T' l1; (try k_lt l1); (try dsimp only); (try k_lift B'))))))
local macro_rules | `(tactic| walk_at "eval Name") => `(tactic| (k_here; k_dflt (refine' nameX_B ?F ?X ?T ?e ?v ?n ?_ ?a ?b; (case F => k_asm); (case X => k_asm); (case T => k_asm); (case a => rfl); (case b => rfl); (case e => k_is); (case v => first | boot_by_name | kernel_rfl); (case n => decide); k_whole)))
local macro_rules | `(tactic| walk_at "call type:super") => `(tactic| (k_here; k_dflt (refine' Mine.super2 ?F ?X ?N ?I ?c ?d ?_; (case F => k_asm); (case X => k_asm); (case N => k_asm); (case I => k_inst); (case c => k_is); (case d => k_is);  intro so' h' F' N' l1; (try k_lt l1))))

local macro_rules | `(tactic| walk_at "ite") => `(tactic| (first | refine ite_neg (by decide) ?_ | refine ite_pos (by decide) ?_))
local macro_rules | `(tactic| walk_at "execs cons") => `(tactic| (k_here; (fail_if_success (refine' Mine.gen_toks (by with_reducible assumption) ?_)); (try dsimp only); refine' Mine.gen_toks (by omega) ?_; intro tk htk))
local macro_rules | `(tactic| walk_at "execs nil") => `(tactic| (k_here; (fail_if_success (refine' Mine.gen_toks (by with_reducible assumption) ?_)); (try dsimp only); refine' Mine.gen_toks (by omega) ?_; intro tk htk))
local macro_rules | `(tactic| walk_at "call builtin:str.replace") => `(tactic| (k_here; (try dsimp only); refine' Mine.replaceT ?a ?b ?c ?d ?e ?f ?g ?_; (case a => (try dsimp only); omega); (case b => (try dsimp only); omega); (case c => (try dsimp only); omega); (case d => (try dsimp only); omega); (case e => decide); (case f => omega); (case g => decide); intro t' k' hk' hl'))

namespace Mine
def escF (x : Str) : Str := Txt.replace (Txt.replace (Txt.replace (Txt.replace x (Str.ofString "&") (Str.ofString "&amp;")) (Str.ofString "<") (Str.ofString "&lt;")) (Str.ofString ">") (Str.ofString "&gt;")) (Str.ofString "\"") (Str.ofString "&quot;")
section
variable {w : World} {p : Program} {loose : List Str} {mean : ExcName → Option Value} {mg mb : Str → Option Value}
  {dp un : Nat} {gd : Option (List Code)} {cn : Str} {cs : Scope} {a : Addr} {ccd : Value} {cl : List (Str × Addr)} {outer : List Env} {A₀ : Around} {base h₀ : Heap} {L : Addr} {m : Str → Option Value} {s : Shared} {Q E : Value → Shared → Prop} {news : List (Addr × Obj)}


theorem escape_ok {x : Str} {t : Tok} (B : Below A₀ base outer h₀) (F : Fr h₀ L s.heap m) (X : (hd.heap_39 w.params).In h₀) (N : News h₀ L s.heap news) (T : Top p loose mean mg mb h₀) (hk : cs.kind = .function)
  (hdp : dp + 10 < recursionLimit) (hu : un + 30 < cLine) (htk : 0 < s.toks) (hx : x.length ≤ 2000)
  (ret : ∀ t' h' tk', 0 < tk' → Fr h₀ L h' m → News h₀ L h' news → Q (.str (escF x) t') { s with heap := h', toks := tk' }) :
  wpAny (model PySem.Challenge.rw_bq5017_02.row.prog w) (ktrTop dp un gd cn cs L a ccd cl outer) (call (.ref 238) [.str x t] []) Q E s := by
  revert X
  k_fill
  intro X
  refine wpAny_call ?_
  k_dflt ktr_enter
  k_steps
  all_goals (refine ret _ _ _ ?_ (by assumption) (subL (by assumption) (by intro p hp; repeat (first | assumption | refine List.Mem.tail _ ?_))))
  all_goals ((try dsimp only); omega)
end
end Mine
end
section
open PySem PySem.W PyProof.Rows PySem.Builtin.Re
set_option maxRecDepth 100000
set_option maxHeartbeats 8000000
set_option linter.unusedVariables false
namespace Mine
theorem plainAttrs_match : PlainAttrs "re.Match" :=
  ⟨⟨"object.__getattribute__", by rw [typeLookup_type, builtinLookup_eq_fast]; kernel_rfl, by decide +kernel⟩, by rw [typeLookup_type, builtinLookup_eq_fast]; kernel_rfl⟩
theorem slot_group : Slot "re.Match" "group" "re.Match.group" :=
  .of (owner := "re.Match") (n := "group") (by rw [typeLookup_type, builtinLookup_eq_fast]; kernel_rfl) (by decide +kernel) (by decide +kernel) (by decide +kernel)
    (by first | exact .inl (by decide +kernel) | exact .inr (by decide +kernel)) (by rw [isSubtype_type]; kernel_rfl)
theorem type_group : typeOf (.builtin "re.Match.group") = pure (.type "method_descriptor") := by show builtinType _ = _; rw [builtinType_eq_fast]; kernel_rfl
theorem entry_group : entryFor table "re.Match.group" = some Builtin.«re.Match.group» := entryFor_of_tree (by kernel_rfl)
theorem args_group (a b : Value) : argsOk "re.Match.group" ⟨[a, b], []⟩ := by unfold argsOk; kernel_rfl
abbrev matchObj (x : Str) (t : Tok) (pat a b c : Value) (sp : Addr) : Obj := ⟨.type "re.Match", none, .fields #[.str x t, pat, a, b, c, .ref sp], #[]⟩
abbrev spanObj (a b c d : Int) : Obj := ⟨.type "tuple", none, .seq #[rawInt a, rawInt b, rawInt c, rawInt d] 0, #[]⟩
section
variable {prog : Program} {w : World} {A : Around} {E : Value → Shared → Prop} {s : Shared} {h₀ : Heap} {L : Addr} {m : Str → Option Value} {news : List (Addr × Obj)}
theorem group_get {q sp : Addr} {x : Str} {t : Tok} {pat a b c : Value} {pl : Sem Bool} {Q : Value × List Value → Shared → Prop} (hq : s.heap.get? q = some (matchObj x t pat a b c sp)) (h : Q (.builtin "re.Match.group", [.ref q]) s) :
    wpAny (model prog w) A (getMethod (.ref q) "group" pl) Q E s :=
  getMethod_builtin (T := "re.Match") ⟨_, hq, rfl⟩ plainAttrs_match slot_group type_group (fun a e => by cases e; exact ⟨_, hq, rfl⟩) h
theorem group1_ok {q sp : Addr} {x : Str} {t tk : Tok} {pat a b c : Value} {i j : Int} {u v : Nat} {Q : Value → Shared → Prop} (hq : s.heap.get? q = some (matchObj x t pat a b c sp)) (hs : s.heap.get? sp = some (spanObj i j u v))
    (hl : x.length ≤ 1000)
    (h : Q (.str ⟨x.cps.extract u v⟩ s.toks) { s with toks := s.toks + 1 }) :
    wpAny (model prog w) A (call (.builtin "re.Match.group") [.ref q, .int 1 tk]) Q E s := by
  refine wpAny_call_entry slot_group ⟨_, hq, rfl⟩ entry_group ?_ (args_group _ _)
  unfold Builtin.«re.Match.group»
  repeat wp_step
  have e : Array.map reRawOf ((some #[rawInt i, rawInt j, rawInt (u : Int), rawInt (v : Int)]).getD #[]) = #[i, j, (u : Int), (v : Int)] := by simp [rawInt, reRawOf]
  rw [e]
  show wpAny _ _ (if (decide ((u : Int) < 0) || decide ((v : Int) < 0)) = true then pure Value.none else (do let (text, kind) ← reTextOf (.str x t); reSlice text kind (u : Int).toNat (v : Int).toNat)) _ _ _
  rw [if_neg (by simp only [Bool.or_eq_true, decide_eq_true_eq]; omega)]
  refine wpAny_bind (wpAny_of_eq (a := (x.cps, 0)) rfl ?_)
  show wpAny _ _ (mkStr ⟨x.cps.extract u v⟩) _ _ _
  have hz : (⟨x.cps.extract u v⟩ : Str).length ≤ sizeLine := by
    show (x.cps.extract u v).size ≤ sizeLine
    have h1 : (x.cps.extract u v).size ≤ x.cps.size := by simp only [Array.size_extract]; omega
    have h2 : x.cps.size = x.length := rfl
    rw [sizeLine_eq]; omega
  exact wpAny_mkStr (wpAny_pure ⟨_, rfl, h⟩) hz
end
end Mine
end
section
open PySem PySem.W PyProof.Rows PySem.Builtin.Re
set_option maxRecDepth 100000
set_option maxHeartbeats 8000000
set_option linter.unusedVariables false
namespace Mine
theorem typeCall_int_2 (a b : Value) : checkTypeCall "int" ⟨[a, b], []⟩ = pure () := by kernel_rfl
theorem newCall_int_2 (a b : Value) : checkBuiltinCall "int.__new__" ⟨[.type "int", a, b], []⟩ = pure () := by kernel_rfl
theorem args_init_3 (a b c : Value) : argsOk "object.__init__" ⟨[a, b, c], []⟩ := by unfold argsOk; kernel_rfl
theorem read_hex {M : Model} {A : Around} {E : Value → Shared → Prop} {s : Shared} {Q : Value → Shared → Prop} {v : Value} {text seen : List Nat} {n : Int} (hw : text.takeWhile (· != 0) = seen) (hs : seen.length ≤ 640)
    (hr : (int_private% "readNumeral") 0 16 seen = (int_private% "Numeral.value") n) (ha : (seen.length == text.length) = true) (h : Q (.int n s.toks) { s with toks := s.toks + 1 }) :
    wpAny M A ((int_private% "intFromText") v text 16) Q E s := by
  subst hw
  have h1 := decide_eq_true hs
  obtain ⟨hp, g, d, tk, os⟩ := s
  repeat (any_goals (first
    | (with_reducible refine wpAny_ite_true h1 ?_)
    | (with_reducible refine wpAny_ite_true (decide_eq_true ha) ?_)
    | (rw [hr]; dsimp only)
    | wp_step))
  all_goals exact h
theorem gives_hex (x : Str) (n : Int) (hx : x = Str.ofString "41" ∧ n = 65 ∨ x = Str.ofString "110000" ∧ n = 1114112) (u k : Tok) : Gives (Builtin.«int.__new__» ⟨[.type "int", .str x u, .int 16 k], []⟩) (.int n) := by
  have key : ((if (x.cps.all fun x => decide (x < 128)) = true then x.cps.toList else Unicode.numberText x.cps.toList).takeWhile (· != 0)).length ≤ 640 ∧ (int_private% "readNumeral") 0 16 ((if (x.cps.all fun x => decide (x < 128)) = true then x.cps.toList else Unicode.numberText x.cps.toList).takeWhile (· != 0)) = (int_private% "Numeral.value") n ∧
      (((if (x.cps.all fun x => decide (x < 128)) = true then x.cps.toList else Unicode.numberText x.cps.toList).takeWhile (· != 0)).length == (if (x.cps.all fun x => decide (x < 128)) = true then x.cps.toList else Unicode.numberText x.cps.toList).length) = true := by
    rcases hx with ⟨rfl, rfl⟩ | ⟨rfl, rfl⟩ <;> exact ⟨by decide +kernel, by kernel_rfl, by decide +kernel⟩
  clear hx
  refine .of_wp fun M A E s Q h => ?_
  obtain ⟨hp, g, d, tk, os⟩ := s
  have f1 := F.conv_sub_int
  have f2 := F.madeHere_int
  repeat (any_goals (first | assumption | ((with_reducible show wpAny _ _ ((int_private% "intFromText") _ _ _) _ _ _); refine read_hex rfl key.1 key.2.1 key.2.2 ?_) | wp_step))
  all_goals first | exact ⟨_, rfl, h⟩ | skip
theorem hex_ok {prog : Program} {w : World} {A : Around} {E : Value → Shared → Prop} {s : Shared} {x : Str} {n : Int} {u k : Tok} {Q : Value → Shared → Prop} (hx : x = Str.ofString "41" ∧ n = 65 ∨ x = Str.ofString "110000" ∧ n = 1114112)
    (h : Q (.int n s.toks) { s with toks := s.toks + 1 }) : wpAny (model prog w) A (call (.type "int") [.str x u, .int 16 k]) Q E s :=
  callType_new F.called_int F.newNe_int (typeCall_int_2 _ _) (newCall_int_2 _ _) (fun obj => args_init_3 obj _ _) F.entry_int_new (gives_hex x n hx u k).meets (show (Made.int n).post _ s from ⟨rfl, h⟩)
end Mine
end
section
theorem Mine.start11 : True := by w_top off; trivial
open PySem PySem.W PyProof.Rows PySem.Calls PySem.Spec
set_option maxRecDepth 100000
set_option maxHeartbeats 8000000
set_option linter.unusedVariables false

namespace Mine
section
variable {prog : Program} {w : World} {A : Around} {E : Value → Shared → Prop} {s : Shared} {h₀ : Heap} {L : Addr} {m : Str → Option Value} {news : List (Addr × Obj)}
theorem lit_ret {x y : Str} {t : Tok} {Q : Value → Shared → Prop} (e : y = x) (h : Q (.str x t) s) : Q (.str y t) s := by rw [e]; exact h
theorem group1_lit {q sp : Addr} {x g : Str} {t tk : Tok} {pat a b c : Value} {i j : Int} {u v : Nat} {Q : Value → Shared → Prop} (hq : s.heap.get? q = some (matchObj x t pat a b c sp)) (hs : s.heap.get? sp = some (spanObj i j u v))
    (hl : x.length ≤ 1000) (hg : (⟨x.cps.extract u v⟩ : Str) = g)
    (h : Q (.str g s.toks) { s with toks := s.toks + 1 }) :
    wpAny (model prog w) A (call (.builtin "re.Match.group") [.ref q, .int 1 tk]) Q E s := group1_ok hq hs hl (by rw [hg]; exact h)
end
end Mine
local macro_rules | `(tactic| k_room) => `(tactic| ktr_room)
local macro_rules | `(tactic| k_all) => `(tactic| first | assumption | exact Mine.neAll (by assumption))
local macro_rules | `(tactic| k_lt $h:ident) => `(tactic| (replace $h := allLt_of $h; simp only [AllLt, and_true] at $h:ident; (repeat (have lx := And.left $h; replace $h := And.right $h))))
local macro_rules | `(tactic| ktr_enter) => `(tactic| (refine' code_def ?k1 ?k2 ?k3 ?k4 ?k5 ?kA ?kF ?kK ?k6 ?k7 ?k8 ?k9 ?kB ?_ ?c2 ?c3 ?c4 ?c5; (case kA => exact rfl); (case kF => exact rfl); (case kK => first | exact rfl | assumption); (case k1 => k_asm); (case k2 => k_asm); (case k3 => k_asm); (case k4 => k_asm); (case k5 => k_asm); (case k6 => k_is); (case k7 => k_is); (case k8 => ktr_room); (case k9 => first | exact BindsTo.of_eq rfl | exact binds_K (by k_in) rfl (by k_is) rfl rfl rfl); (case c5 => decide); (case kB => exact locs rfl); (case c2 => exact rfl); (case c3 => exact rfl); (case c4 => exact rfl); k_whole; intro g' L' h' FG' F' N' B' X' T'; (try dsimp only); (try k_lift B'); (try k_fold)))
local macro_rules | `(tactic| walk_at "call ref") => `(tactic| (k_here; k_dflt (
  (refine' call_cls ?k1 ?k2 ?k3 ?k4 ?k5 ?k6 ?_; (case k1 => k_asm); (case k2 => k_asm); (case k3 => k_asm); (case k4 => k_is); (case k5 => k_is); (case k6 => k_is); intro x' d' h' F' N' l1 l2; (try k_lt l1); (try k_lt2 l2); 
   (refine' ks_code_super ?k1 ?k2 ?k3 ?k4 ?k5 ?kA ?kF ?kK ?k6 ?k7 ?k8 ?k9 ?kB ?_ ?c1 ?c2 ?c3 ?c4; (case kA => exact rfl); (case kF => exact rfl); (case kK => first | exact rfl | assumption); (case k1 => k_asm); (case k2 => k_asm); (case k3 => k_asm); (case k4 => k_asm); (case k5 => k_asm); (case k6 => k_is); (case k7 => k_is); (case k8 => ktr_room); (case k9 => first | exact BindsTo.of_eq rfl | exact binds_K (by k_in) rfl (by k_is) rfl rfl rfl); (case kB => exact locs rfl); (case c1 => decide); (case c2 => exact rfl); (case c3 => exact rfl); (case c4 => exact rfl); intro g' L' h' FG' F' N' B' X' T' l1; (try k_lt l1); (try dsimp only); (try k_lift B'))))))
local macro_rules | `(tactic| walk_at "eval Name") => `(tactic| (k_here; k_dflt (refine' nameX_B ?F ?X ?T ?e ?v ?n ?_ ?a ?b; (case F => k_asm); (case X => k_asm); (case T => k_asm); (case a => rfl); (case b => rfl); (case e => k_is); (case v => first | boot_by_name | kernel_rfl); (case n => decide); k_whole)))
local macro_rules | `(tactic| walk_at "call type:super") => `(tactic| (k_here; k_dflt (refine' Mine.super2 ?F ?X ?N ?I ?c ?d ?_; (case F => k_asm); (case X => k_asm); (case N => k_asm); (case I => k_inst); (case c => k_is); (case d => k_is);  intro so' h' F' N' l1; (try k_lt l1))))

local macro_rules | `(tactic| walk_at "ite") => `(tactic| (first | refine ite_neg (by decide) ?_ | refine ite_pos (by decide) ?_ | refine ite_neg (by decide +kernel) ?_ | refine ite_pos (by decide +kernel) ?_))
local macro_rules | `(tactic| walk_at "forall") => `(tactic| (k_here; intro htk; (try dsimp only at htk); (try dsimp only)))
local macro_rules | `(tactic| walk_at "execs cons") => `(tactic| (k_here; k_dflt (refine' Mine.execs_cons_T ?h ?_; (case h => first | assumption | ((try dsimp only); omega)))))
local macro_rules | `(tactic| walk_at "execs cons") => `(tactic| (k_here; (fail_if_success (refine' Mine.gen_toks (by with_reducible assumption) ?_)); (try dsimp only); refine' Mine.gen_toks (by omega) ?_; intro tk htk))
local macro_rules | `(tactic| walk_at "execs nil") => `(tactic| (k_here; (fail_if_success (refine' Mine.gen_toks (by with_reducible assumption) ?_)); (try dsimp only); refine' Mine.gen_toks (by omega) ?_; intro tk htk))
local macro_rules | `(tactic| walk_at "call builtin:str.replace") => `(tactic| (k_here; k_dflt ((try dsimp only); refine' Mine.replaceT ?a ?b ?c ?d ?e ?f ?g ?_; (case a => (try dsimp only); omega); (case b => (try dsimp only); omega); (case c => (try dsimp only); omega); (case d => (try dsimp only); omega); (case e => decide); (case f => omega); (case g => decide); intro t' k' hk' hl')))
local macro_rules | `(tactic| walk_at "getMethod ref") => `(tactic| (k_here; k_dflt (refine' Mine.group_get ?h ?_; (case h => exact News.get (by k_asm) (by k_mem)))))
local macro_rules | `(tactic| walk_at "call builtin:re.Match.group") => `(tactic| (k_here; k_dflt (refine' Mine.group1_lit ?h ?h2 ?h3 ?h4 ?_; (case h => exact News.get (by k_asm) (by k_mem)); (case h2 => exact News.get (by k_asm) (by k_mem)); (case h3 => assumption); (case h4 => assumption))))
local macro_rules | `(tactic| walk_at "call type:int") => `(tactic| (k_here; k_dflt (refine' Mine.hex_ok ?h ?_; (case h => first | exact .inl ⟨rfl, rfl⟩ | exact .inr ⟨rfl, rfl⟩))))

namespace Mine
section
variable {w : World} {p : Program} {loose : List Str} {mean : ExcName → Option Value} {mg mb : Str → Option Value}
  {dp un : Nat} {gd : Option (List Code)} {cn : Str} {cs : Scope} {a : Addr} {ccd : Value} {cl : List (Str × Addr)} {outer : List Env} {A₀ : Around} {base h₀ : Heap} {L : Addr} {m : Str → Option Value} {s : Shared} {Q E : Value → Shared → Prop} {news : List (Addr × Obj)}


theorem charref_amp {q sp : Addr} {x : Str} {t : Tok} {pat a' b' c' : Value} {i j : Int} {u v : Nat} (B : Below A₀ base outer h₀) (F : Fr h₀ L s.heap m) (X : (hd.heap_39 w.params).In h₀)
  (N : News h₀ L s.heap ((q, matchObj x t pat a' b' c' sp) :: (sp, spanObj i j u v) :: news)) (T : Top p loose mean mg mb h₀) (hk : cs.kind = .function)
  (hdp : dp + 10 < recursionLimit) (hu : un + 30 < cLine) (htk : 0 < s.toks) (hx : x.length ≤ 1000) (hg : (⟨x.cps.extract u v⟩ : Str) = Str.ofString "amp;")
  (ret : ∀ t' h' tk', 0 < tk' → Fr h₀ L h' m → News h₀ L h' ((q, matchObj x t pat a' b' c' sp) :: (sp, spanObj i j u v) :: news) → Q (.str (Str.ofString "&") t') { s with heap := h', toks := tk' }) :
  wpAny (model PySem.Challenge.rw_bq5017_02.row.prog w) (ktrTop dp un gd cn cs L a ccd cl outer) (call (.ref 60) [.ref q] []) Q E s := by
  revert X
  k_fill
  intro X
  refine wpAny_call ?_
  k_dflt ktr_enter
  k_steps
  all_goals (refine lit_ret (by decide +kernel) (ret _ _ _ ?_ (by assumption) (subL (by assumption) (List.forall_mem_cons.mpr ⟨by k_mem, List.forall_mem_cons.mpr ⟨by k_mem, by (intro p hp; repeat (first | assumption | refine List.Mem.tail _ ?_))⟩⟩))))
  all_goals ((try dsimp only); omega)

theorem charref_copy {q sp : Addr} {x : Str} {t : Tok} {pat a' b' c' : Value} {i j : Int} {u v : Nat} (B : Below A₀ base outer h₀) (F : Fr h₀ L s.heap m) (X : (hd.heap_39 w.params).In h₀)
  (N : News h₀ L s.heap ((q, matchObj x t pat a' b' c' sp) :: (sp, spanObj i j u v) :: news)) (T : Top p loose mean mg mb h₀) (hk : cs.kind = .function)
  (hdp : dp + 10 < recursionLimit) (hu : un + 30 < cLine) (htk : 0 < s.toks) (hx : x.length ≤ 1000) (hg : (⟨x.cps.extract u v⟩ : Str) = Str.ofString "copy;")
  (ret : ∀ t' h' tk', 0 < tk' → Fr h₀ L h' m → News h₀ L h' ((q, matchObj x t pat a' b' c' sp) :: (sp, spanObj i j u v) :: news) → Q (.str (Str.ofString "©") t') { s with heap := h', toks := tk' }) :
  wpAny (model PySem.Challenge.rw_bq5017_02.row.prog w) (ktrTop dp un gd cn cs L a ccd cl outer) (call (.ref 60) [.ref q] []) Q E s := by
  revert X
  k_fill
  intro X
  refine wpAny_call ?_
  k_dflt ktr_enter
  k_steps
  all_goals (refine lit_ret (by decide +kernel) (ret _ _ _ ?_ (by assumption) (subL (by assumption) (List.forall_mem_cons.mpr ⟨by k_mem, List.forall_mem_cons.mpr ⟨by k_mem, by (intro p hp; repeat (first | assumption | refine List.Mem.tail _ ?_))⟩⟩))))
  all_goals ((try dsimp only); omega)

theorem charref_n65 {q sp : Addr} {x : Str} {t : Tok} {pat a' b' c' : Value} {i j : Int} {u v : Nat} (B : Below A₀ base outer h₀) (F : Fr h₀ L s.heap m) (X : (hd.heap_39 w.params).In h₀)
  (N : News h₀ L s.heap ((q, matchObj x t pat a' b' c' sp) :: (sp, spanObj i j u v) :: news)) (T : Top p loose mean mg mb h₀) (hk : cs.kind = .function)
  (hdp : dp + 10 < recursionLimit) (hu : un + 30 < cLine) (htk : 0 < s.toks) (hx : x.length ≤ 1000) (hg : (⟨x.cps.extract u v⟩ : Str) = Str.ofString "#65;")
  (ret : ∀ t' h' tk', 0 < tk' → Fr h₀ L h' m → News h₀ L h' ((q, matchObj x t pat a' b' c' sp) :: (sp, spanObj i j u v) :: news) → Q (.str (Str.ofString "A") t') { s with heap := h', toks := tk' }) :
  wpAny (model PySem.Challenge.rw_bq5017_02.row.prog w) (ktrTop dp un gd cn cs L a ccd cl outer) (call (.ref 60) [.ref q] []) Q E s := by
  revert X
  k_fill
  intro X
  refine wpAny_call ?_
  k_dflt ktr_enter
  k_steps
  all_goals (refine lit_ret (by decide +kernel) (ret _ _ _ ?_ (by assumption) (subL (by assumption) (List.forall_mem_cons.mpr ⟨by k_mem, List.forall_mem_cons.mpr ⟨by k_mem, by (intro p hp; repeat (first | assumption | refine List.Mem.tail _ ?_))⟩⟩))))
  all_goals ((try dsimp only); omega)

theorem charref_x41 {q sp : Addr} {x : Str} {t : Tok} {pat a' b' c' : Value} {i j : Int} {u v : Nat} (B : Below A₀ base outer h₀) (F : Fr h₀ L s.heap m) (X : (hd.heap_39 w.params).In h₀)
  (N : News h₀ L s.heap ((q, matchObj x t pat a' b' c' sp) :: (sp, spanObj i j u v) :: news)) (T : Top p loose mean mg mb h₀) (hk : cs.kind = .function)
  (hdp : dp + 10 < recursionLimit) (hu : un + 30 < cLine) (htk : 0 < s.toks) (hx : x.length ≤ 1000) (hg : (⟨x.cps.extract u v⟩ : Str) = Str.ofString "#x41;")
  (ret : ∀ t' h' tk', 0 < tk' → Fr h₀ L h' m → News h₀ L h' ((q, matchObj x t pat a' b' c' sp) :: (sp, spanObj i j u v) :: news) → Q (.str (Str.ofString "A") t') { s with heap := h', toks := tk' }) :
  wpAny (model PySem.Challenge.rw_bq5017_02.row.prog w) (ktrTop dp un gd cn cs L a ccd cl outer) (call (.ref 60) [.ref q] []) Q E s := by
  revert X
  k_fill
  intro X
  refine wpAny_call ?_
  k_dflt ktr_enter
  k_steps
  all_goals (refine lit_ret (by decide +kernel) (ret _ _ _ ?_ (by assumption) (subL (by assumption) (List.forall_mem_cons.mpr ⟨by k_mem, List.forall_mem_cons.mpr ⟨by k_mem, by (intro p hp; repeat (first | assumption | refine List.Mem.tail _ ?_))⟩⟩))))
  all_goals ((try dsimp only); omega)

theorem charref_X41 {q sp : Addr} {x : Str} {t : Tok} {pat a' b' c' : Value} {i j : Int} {u v : Nat} (B : Below A₀ base outer h₀) (F : Fr h₀ L s.heap m) (X : (hd.heap_39 w.params).In h₀)
  (N : News h₀ L s.heap ((q, matchObj x t pat a' b' c' sp) :: (sp, spanObj i j u v) :: news)) (T : Top p loose mean mg mb h₀) (hk : cs.kind = .function)
  (hdp : dp + 10 < recursionLimit) (hu : un + 30 < cLine) (htk : 0 < s.toks) (hx : x.length ≤ 1000) (hg : (⟨x.cps.extract u v⟩ : Str) = Str.ofString "#X41;")
  (ret : ∀ t' h' tk', 0 < tk' → Fr h₀ L h' m → News h₀ L h' ((q, matchObj x t pat a' b' c' sp) :: (sp, spanObj i j u v) :: news) → Q (.str (Str.ofString "A") t') { s with heap := h', toks := tk' }) :
  wpAny (model PySem.Challenge.rw_bq5017_02.row.prog w) (ktrTop dp un gd cn cs L a ccd cl outer) (call (.ref 60) [.ref q] []) Q E s := by
  revert X
  k_fill
  intro X
  refine wpAny_call ?_
  k_dflt ktr_enter
  k_steps
  all_goals (refine lit_ret (by decide +kernel) (ret _ _ _ ?_ (by assumption) (subL (by assumption) (List.forall_mem_cons.mpr ⟨by k_mem, List.forall_mem_cons.mpr ⟨by k_mem, by (intro p hp; repeat (first | assumption | refine List.Mem.tail _ ?_))⟩⟩))))
  all_goals ((try dsimp only); omega)

theorem charref_bogus {q sp : Addr} {x : Str} {t : Tok} {pat a' b' c' : Value} {i j : Int} {u v : Nat} (B : Below A₀ base outer h₀) (F : Fr h₀ L s.heap m) (X : (hd.heap_39 w.params).In h₀)
  (N : News h₀ L s.heap ((q, matchObj x t pat a' b' c' sp) :: (sp, spanObj i j u v) :: news)) (T : Top p loose mean mg mb h₀) (hk : cs.kind = .function)
  (hdp : dp + 10 < recursionLimit) (hu : un + 30 < cLine) (htk : 0 < s.toks) (hx : x.length ≤ 1000) (hg : (⟨x.cps.extract u v⟩ : Str) = Str.ofString "bogus;")
  (ret : ∀ t' h' tk', 0 < tk' → Fr h₀ L h' m → News h₀ L h' ((q, matchObj x t pat a' b' c' sp) :: (sp, spanObj i j u v) :: news) → Q (.str (Str.ofString "&bogus;") t') { s with heap := h', toks := tk' }) :
  wpAny (model PySem.Challenge.rw_bq5017_02.row.prog w) (ktrTop dp un gd cn cs L a ccd cl outer) (call (.ref 60) [.ref q] []) Q E s := by
  revert X
  k_fill
  intro X
  refine wpAny_call ?_
  k_dflt ktr_enter
  k_steps
  all_goals (refine lit_ret (by decide +kernel) (ret _ _ _ ?_ (by assumption) (subL (by assumption) (List.forall_mem_cons.mpr ⟨by k_mem, List.forall_mem_cons.mpr ⟨by k_mem, by (intro p hp; repeat (first | assumption | refine List.Mem.tail _ ?_))⟩⟩))))
  all_goals ((try dsimp only); omega)

theorem charref_n0 {q sp : Addr} {x : Str} {t : Tok} {pat a' b' c' : Value} {i j : Int} {u v : Nat} (B : Below A₀ base outer h₀) (F : Fr h₀ L s.heap m) (X : (hd.heap_39 w.params).In h₀)
  (N : News h₀ L s.heap ((q, matchObj x t pat a' b' c' sp) :: (sp, spanObj i j u v) :: news)) (T : Top p loose mean mg mb h₀) (hk : cs.kind = .function)
  (hdp : dp + 10 < recursionLimit) (hu : un + 30 < cLine) (htk : 0 < s.toks) (hx : x.length ≤ 1000) (hg : (⟨x.cps.extract u v⟩ : Str) = Str.ofString "#0;")
  (ret : ∀ t' h' tk', 0 < tk' → Fr h₀ L h' m → News h₀ L h' ((q, matchObj x t pat a' b' c' sp) :: (sp, spanObj i j u v) :: news) → Q (.str (Str.ofString "&#0;") t') { s with heap := h', toks := tk' }) :
  wpAny (model PySem.Challenge.rw_bq5017_02.row.prog w) (ktrTop dp un gd cn cs L a ccd cl outer) (call (.ref 60) [.ref q] []) Q E s := by
  revert X
  k_fill
  intro X
  refine wpAny_call ?_
  k_dflt ktr_enter
  k_steps
  all_goals (refine lit_ret (by decide +kernel) (ret _ _ _ ?_ (by assumption) (subL (by assumption) (List.forall_mem_cons.mpr ⟨by k_mem, List.forall_mem_cons.mpr ⟨by k_mem, by (intro p hp; repeat (first | assumption | refine List.Mem.tail _ ?_))⟩⟩))))
  all_goals ((try dsimp only); omega)

theorem charref_lt {q sp : Addr} {x : Str} {t : Tok} {pat a' b' c' : Value} {i j : Int} {u v : Nat} (B : Below A₀ base outer h₀) (F : Fr h₀ L s.heap m) (X : (hd.heap_39 w.params).In h₀)
  (N : News h₀ L s.heap ((q, matchObj x t pat a' b' c' sp) :: (sp, spanObj i j u v) :: news)) (T : Top p loose mean mg mb h₀) (hk : cs.kind = .function)
  (hdp : dp + 10 < recursionLimit) (hu : un + 30 < cLine) (htk : 0 < s.toks) (hx : x.length ≤ 1000) (hg : (⟨x.cps.extract u v⟩ : Str) = Str.ofString "lt;")
  (ret : ∀ t' h' tk', 0 < tk' → Fr h₀ L h' m → News h₀ L h' ((q, matchObj x t pat a' b' c' sp) :: (sp, spanObj i j u v) :: news) → Q (.str (Str.ofString "<") t') { s with heap := h', toks := tk' }) :
  wpAny (model PySem.Challenge.rw_bq5017_02.row.prog w) (ktrTop dp un gd cn cs L a ccd cl outer) (call (.ref 60) [.ref q] []) Q E s := by
  revert X
  k_fill
  intro X
  refine wpAny_call ?_
  k_dflt ktr_enter
  k_steps
  all_goals (refine lit_ret (by decide +kernel) (ret _ _ _ ?_ (by assumption) (subL (by assumption) (List.forall_mem_cons.mpr ⟨by k_mem, List.forall_mem_cons.mpr ⟨by k_mem, by (intro p hp; repeat (first | assumption | refine List.Mem.tail _ ?_))⟩⟩))))
  all_goals ((try dsimp only); omega)

theorem charref_quot {q sp : Addr} {x : Str} {t : Tok} {pat a' b' c' : Value} {i j : Int} {u v : Nat} (B : Below A₀ base outer h₀) (F : Fr h₀ L s.heap m) (X : (hd.heap_39 w.params).In h₀)
  (N : News h₀ L s.heap ((q, matchObj x t pat a' b' c' sp) :: (sp, spanObj i j u v) :: news)) (T : Top p loose mean mg mb h₀) (hk : cs.kind = .function)
  (hdp : dp + 10 < recursionLimit) (hu : un + 30 < cLine) (htk : 0 < s.toks) (hx : x.length ≤ 1000) (hg : (⟨x.cps.extract u v⟩ : Str) = Str.ofString "quot;")
  (ret : ∀ t' h' tk', 0 < tk' → Fr h₀ L h' m → News h₀ L h' ((q, matchObj x t pat a' b' c' sp) :: (sp, spanObj i j u v) :: news) → Q (.str (Str.ofString "\"") t') { s with heap := h', toks := tk' }) :
  wpAny (model PySem.Challenge.rw_bq5017_02.row.prog w) (ktrTop dp un gd cn cs L a ccd cl outer) (call (.ref 60) [.ref q] []) Q E s := by
  revert X
  k_fill
  intro X
  refine wpAny_call ?_
  k_dflt ktr_enter
  k_steps
  all_goals (refine lit_ret (by decide +kernel) (ret _ _ _ ?_ (by assumption) (subL (by assumption) (List.forall_mem_cons.mpr ⟨by k_mem, List.forall_mem_cons.mpr ⟨by k_mem, by (intro p hp; repeat (first | assumption | refine List.Mem.tail _ ?_))⟩⟩))))
  all_goals ((try dsimp only); omega)

theorem charref_nbsp {q sp : Addr} {x : Str} {t : Tok} {pat a' b' c' : Value} {i j : Int} {u v : Nat} (B : Below A₀ base outer h₀) (F : Fr h₀ L s.heap m) (X : (hd.heap_39 w.params).In h₀)
  (N : News h₀ L s.heap ((q, matchObj x t pat a' b' c' sp) :: (sp, spanObj i j u v) :: news)) (T : Top p loose mean mg mb h₀) (hk : cs.kind = .function)
  (hdp : dp + 10 < recursionLimit) (hu : un + 30 < cLine) (htk : 0 < s.toks) (hx : x.length ≤ 1000) (hg : (⟨x.cps.extract u v⟩ : Str) = Str.ofString "nbsp;")
  (ret : ∀ t' h' tk', 0 < tk' → Fr h₀ L h' m → News h₀ L h' ((q, matchObj x t pat a' b' c' sp) :: (sp, spanObj i j u v) :: news) → Q (.str (Str.ofString "\u00a0") t') { s with heap := h', toks := tk' }) :
  wpAny (model PySem.Challenge.rw_bq5017_02.row.prog w) (ktrTop dp un gd cn cs L a ccd cl outer) (call (.ref 60) [.ref q] []) Q E s := by
  revert X
  k_fill
  intro X
  refine wpAny_call ?_
  k_dflt ktr_enter
  k_steps
  all_goals (refine lit_ret (by decide +kernel) (ret _ _ _ ?_ (by assumption) (subL (by assumption) (List.forall_mem_cons.mpr ⟨by k_mem, List.forall_mem_cons.mpr ⟨by k_mem, by (intro p hp; repeat (first | assumption | refine List.Mem.tail _ ?_))⟩⟩))))
  all_goals ((try dsimp only); omega)

theorem charref_n55 {q sp : Addr} {x : Str} {t : Tok} {pat a' b' c' : Value} {i j : Int} {u v : Nat} (B : Below A₀ base outer h₀) (F : Fr h₀ L s.heap m) (X : (hd.heap_39 w.params).In h₀)
  (N : News h₀ L s.heap ((q, matchObj x t pat a' b' c' sp) :: (sp, spanObj i j u v) :: news)) (T : Top p loose mean mg mb h₀) (hk : cs.kind = .function)
  (hdp : dp + 10 < recursionLimit) (hu : un + 30 < cLine) (htk : 0 < s.toks) (hx : x.length ≤ 1000) (hg : (⟨x.cps.extract u v⟩ : Str) = Str.ofString "#55296;")
  (ret : ∀ t' h' tk', 0 < tk' → Fr h₀ L h' m → News h₀ L h' ((q, matchObj x t pat a' b' c' sp) :: (sp, spanObj i j u v) :: news) → Q (.str (Str.ofString "&#55296;") t') { s with heap := h', toks := tk' }) :
  wpAny (model PySem.Challenge.rw_bq5017_02.row.prog w) (ktrTop dp un gd cn cs L a ccd cl outer) (call (.ref 60) [.ref q] []) Q E s := by
  revert X
  k_fill
  intro X
  refine wpAny_call ?_
  k_dflt ktr_enter
  k_steps
  all_goals (refine lit_ret (by decide +kernel) (ret _ _ _ ?_ (by assumption) (subL (by assumption) (List.forall_mem_cons.mpr ⟨by k_mem, List.forall_mem_cons.mpr ⟨by k_mem, by (intro p hp; repeat (first | assumption | refine List.Mem.tail _ ?_))⟩⟩))))
  all_goals ((try dsimp only); omega)

theorem charref_x11 {q sp : Addr} {x : Str} {t : Tok} {pat a' b' c' : Value} {i j : Int} {u v : Nat} (B : Below A₀ base outer h₀) (F : Fr h₀ L s.heap m) (X : (hd.heap_39 w.params).In h₀)
  (N : News h₀ L s.heap ((q, matchObj x t pat a' b' c' sp) :: (sp, spanObj i j u v) :: news)) (T : Top p loose mean mg mb h₀) (hk : cs.kind = .function)
  (hdp : dp + 10 < recursionLimit) (hu : un + 30 < cLine) (htk : 0 < s.toks) (hx : x.length ≤ 1000) (hg : (⟨x.cps.extract u v⟩ : Str) = Str.ofString "#x110000;")
  (ret : ∀ t' h' tk', 0 < tk' → Fr h₀ L h' m → News h₀ L h' ((q, matchObj x t pat a' b' c' sp) :: (sp, spanObj i j u v) :: news) → Q (.str (Str.ofString "&#x110000;") t') { s with heap := h', toks := tk' }) :
  wpAny (model PySem.Challenge.rw_bq5017_02.row.prog w) (ktrTop dp un gd cn cs L a ccd cl outer) (call (.ref 60) [.ref q] []) Q E s := by
  revert X
  k_fill
  intro X
  refine wpAny_call ?_
  k_dflt ktr_enter
  k_steps
  all_goals (refine lit_ret (by decide +kernel) (ret _ _ _ ?_ (by assumption) (subL (by assumption) (List.forall_mem_cons.mpr ⟨by k_mem, List.forall_mem_cons.mpr ⟨by k_mem, by (intro p hp; repeat (first | assumption | refine List.Mem.tail _ ?_))⟩⟩))))
  all_goals ((try dsimp only); omega)

end
end Mine
end
section
local macro_rules | `(tactic| walk_at "own pad 0") => `(tactic| skip)
open PySem PySem.W PyProof.Rows PySem.Builtin.Re
set_option maxRecDepth 100000
set_option maxHeartbeats 8000000
set_option linter.unusedVariables false
namespace Mine
theorem slot_sub : Slot "re.Pattern" "sub" "re.Pattern.sub" :=
  .of (owner := "re.Pattern") (n := "sub") (by rw [typeLookup_type, builtinLookup_eq_fast]; kernel_rfl) (by decide +kernel) (by decide +kernel) (by decide +kernel)
    (by first | exact .inl (by decide +kernel) | exact .inr (by decide +kernel)) (by rw [isSubtype_type]; kernel_rfl)
theorem type_sub : typeOf (.builtin "re.Pattern.sub") = pure (.type "method_descriptor") := by show builtinType _ = _; rw [builtinType_eq_fast]; kernel_rfl
theorem entry_sub : entryFor table "re.Pattern.sub" = some Builtin.«re.Pattern.sub» := entryFor_of_tree (by kernel_rfl)
theorem args_sub (a b c : Value) : argsOk "re.Pattern.sub" ⟨[a, b, c], []⟩ := by unfold argsOk; kernel_rfl
theorem entry_subLoop : entryFor table "re.Pattern.sub.loop" = some Builtin.«re.Pattern.sub.loop» := entryFor_of_tree (by kernel_rfl)
theorem plain_subLoop : plainId "re.Pattern.sub.loop" = true := by decide +kernel
theorem str_bytearray : isSubtype (.type "str") (.type "bytearray") = pure false := by rw [isSubtype_type]; kernel_rfl
theorem fn_call : typeLookup (.type "function") "__call__" = pure (some (.builtin "function.__call__")) := by rw [typeLookup_type, builtinLookup_eq_fast]; kernel_rfl
theorem named2 (x y : Value) : reNamed "re.Pattern.sub" "sub" ["repl", "string", "count"] 2 [x, y] [] = pure [some x, some y, none] := by rfl
section
variable {prog : Program} {w : World} {A : Around} {E : Value → Shared → Prop} {s : Shared} {h₀ : Heap} {L : Addr} {m : Str → Option Value} {news : List (Addr × Obj)}
theorem sub_get {P C : Addr} {pat fl : Value} {g : Nat} {tg tk : Tok} {pl : Sem Bool} {Q : Value × List Value → Shared → Prop} (hP : s.heap.get? P = some (patObj pat fl g tg tk C)) (h : Q (.builtin "re.Pattern.sub", [.ref P]) s) :
    wpAny (model prog w) A (getMethod (.ref P) "sub" pl) Q E s :=
  getMethod_builtin (T := "re.Pattern") ⟨_, hP, rfl⟩ plainAttrs_pat slot_sub type_sub (fun a e => by cases e; exact ⟨_, hP, rfl⟩) h
abbrev loopCode (P f : Addr) (x : Str) (t : Tok) (n start : Nat) (done : Nat) (must : Bool) (l : Addr) : Code :=
  .builtin "re.Pattern.sub.loop" ⟨[.ref P, .str x t, .ref f, rawInt 1, rawInt 0, rawInt n, rawInt done, rawInt start, .bool must, .ref l, .bool false], []⟩
abbrev RV (Q : Value → Shared → Prop) (E : Value → Shared → Prop) : Result → Shared → Prop := fun r s' => match r with | .ok (.ret v) => Q v s' | .ok _ => False | .error e => E e s'
theorem sub_call {P C f : Addr} {pat fl : Value} {g : Nat} {tg tk t : Tok} {cs : Array Value} {n : Nat} {x : Str} {of : Obj} {Q : Value → Shared → Prop} (F : Fr h₀ L s.heap m) (N : News h₀ L s.heap news)
    (hP : s.heap.get? P = some (patObj pat fl g tg tk C)) (hC : s.heap.get? C = some ⟨.type "tuple", none, .seq cs n, #[]⟩) (hf : s.heap.get? f = some of) (hft : of.cls = .type "function")
    (h : ∀ l h', Fr h₀ L h' m → News h₀ L h' ((l, PySem.W.listOf #[] 0) :: news) → (∀ p ∈ news, p.1 < l) → codeAny (model prog w) A (loopCode P f x t 0 0 0 false l) (RV Q E) { s with heap := h' }) :
    wpAny (model prog w) A (call (.builtin "re.Pattern.sub") [.ref P, .ref f, .str x t]) Q E s := by
  refine wpAny_call (codeAny_call_builtin slot_sub.plain entry_sub (slot_sub.check _ _ _ _ _ _ _ _ ⟨_, hP, rfl⟩ (args_sub _ _ _) ?_))
  unfold Builtin.«re.Pattern.sub» reSubstitute
  dsimp only
  rw [named2]
  refine wpAny_bind (wpAny_pure ?_)
  dsimp only
  refine wpAny_bind (wpAny_pure ?_)
  refine wpAny_bind (wpAny_specialOf (T := "function") ⟨_, hf, hft⟩ fn_call ?_)
  have hsb := str_bytearray
  repeat (first | (with_reducible refine newList_N (vs := []) F N (fun h' F' N' => ?_) (Nat.zero_le _)) | wp_step)
  exact ⟨plainId_quiet plain_subLoop _, h _ _ F' N' (fun p hp => Heap.lt_size (N p hp).1)⟩
end
end Mine
end
section
local macro_rules | `(tactic| walk_at "own pad 0") => `(tactic| skip)
open PySem PySem.W PyProof.Rows PySem.Builtin.Re
set_option maxRecDepth 100000
set_option maxHeartbeats 4000000
set_option linter.unusedVariables false
namespace Mine
def spanOf (m : Sre.M) : Option (Nat × Nat) := if (1 : Int) ≤ m.lastmark then (match m.marks.getD 0 none, m.marks.getD 1 none with | some b, some e => if e < b then none else some (b, e) | _, _ => none) else none
def subGo (code : Array Nat) (x : Str) (cb : Str → Option Str) : Nat → Nat → Nat → Bool → List Str → Option (List Str)
  | 0, _, _, _, _ => none
  | fuel + 1, start, done, must, out => match driveK 300 (Sre.forSearch code x.cps 1 start x.cps.size must) with
    | none => none
    | some m => match endOf m with
      | none => none
      | some false => some (if done < x.cps.size then out ++ [⟨x.cps.extract done x.cps.size⟩] else out)
      | some true => match spanOf m with
        | none => none
        | some (b, e) => match cb ⟨x.cps.extract b e⟩ with
          | none => none
          | some r => subGo code x cb fuel m.handed m.handed (m.handed == m.start) ((if done < m.start then out ++ [⟨x.cps.extract done m.start⟩] else out) ++ [r])
section
variable {prog : Program} {w : World} {A : Around} {E : Value → Shared → Prop} {s : Shared} {h₀ : Heap} {L : Addr} {m : Str → Option Value} {news : List (Addr × Obj)}
theorem whole_ok {P C : Addr} {pat fl : Value} {g : Nat} {tg tk t : Tok} {cs : Array Value} {n : Nat} {x : Str} {Q : ReTarget → Shared → Prop} (hP : s.heap.get? P = some (patObj pat fl g tg tk C)) (hC : s.heap.get? C = some ⟨.type "tuple", none, .seq cs n, #[]⟩)
    (hq : Q { pattern := .ref P, string := .str x t, code := codesOf cs, text := x.cps, kind := 0, groups := g, pos := 0, lim := x.cps.size } s) :
    wpAny (model prog w) A (reWholeTarget (.ref P) (.str x t)) Q E s := by
  unfold reWholeTarget
  refine wpAny_bind (wpAny_fieldsOf hP rfl ?_)
  refine wpAny_bind ?_
  unfold reTextOf
  repeat wp_step
  exact hq
theorem newTuple_eq {vs vs' : List Value} {Q : Value → Shared → Prop} (e : vs = vs') (h : wpAny (model prog w) A (newTuple vs') Q E s) : wpAny (model prog w) A (newTuple vs) Q E s := by rw [e]; exact h
theorem newMatch1 {x : Str} {t : Tok} {P : Addr} {pos lim : Nat} {m' : Sre.M} {b e : Nat} {Q : Value → Shared → Prop} (F : Fr h₀ L s.heap m) (N : News h₀ L s.heap news) (hs : spanOf m' = some (b, e))
    (h1 : ∀ q sp h', Fr h₀ L h' m → News h₀ L h' ((q, matchObj x t (.ref P) (rawInt pos) (rawInt lim) (rawInt m'.lastindex) sp) :: (sp, spanObj m'.start m'.handed b e) :: news) → (∀ p ∈ news, p.1 < sp) → sp < q → Q (.ref q) { s with heap := h' }) :
    wpAny (model prog w) A (reNewMatch (.ref P) (.str x t) 1 pos lim m') Q E s := by
  unfold spanOf at hs
  split at hs
  case isFalse => cases hs
  case isTrue hlm =>
  split at hs
  case h_2 => cases hs
  case h_1 b' e' hb he =>
  split at hs
  case isTrue => cases hs
  case isFalse hlt =>
  cases hs
  have c1 : ((2 * 0 + 1 : Nat) : Int) ≤ m'.lastmark := hlm
  have spans : ((List.range 1).flatMap fun g => match if ((2 * g + 1 : Nat) : Int) ≤ m'.lastmark then (m'.marks.getD (2 * g) none, m'.marks.getD (2 * g + 1) none) else (none, none) with
    | (some b, some e) => [rawInt b, rawInt e]
    | _ => [rawInt (-1), rawInt (-1)]) = [rawInt b, rawInt e] := by
    show (match if ((2 * 0 + 1 : Nat) : Int) ≤ m'.lastmark then (m'.marks.getD 0 none, m'.marks.getD 1 none) else (none, none) with
    | (some b, some e) => [rawInt b, rawInt e]
    | _ => [rawInt (-1), rawInt (-1)]) ++ [] = _
    rw [if_pos c1, hb, he]
    rfl
  have anyF : ((List.range 1).any fun g => match m'.marks.getD (2 * g) none, m'.marks.getD (2 * g + 1) none with | some b, some e => decide (((2 * g + 1 : Nat) : Int) ≤ m'.lastmark) && decide (e < b) | _, _ => false) = false := by
    show ((match m'.marks.getD 0 none, m'.marks.getD 1 none with | some b, some e => decide (((2 * 0 + 1 : Nat) : Int) ≤ m'.lastmark) && decide (e < b) | _, _ => false) || false) = false
    rw [hb, he]
    simp [hlt]
  unfold reNewMatch newFields
  refine wpAny_ite_false (decide_eq_false (fun h => Bool.noConfusion (anyF.symm.trans h))) ?_
  refine wpAny_bind (newTuple_eq (vs' := [rawInt m'.start, rawInt m'.handed, rawInt b, rawInt e]) (congrArg (fun l => rawInt m'.start :: rawInt m'.handed :: l) spans) ?_)
  refine newTuple_N F N (fun h1' F1 N1 => ?_) (by simp [sizeLine_eq])
  refine wpAny_newObj_type ?_ (by simp [sizeOk, sizeLine_eq])
  refine h1 _ _ _ (F1.push _) (News.push F1 N1 _ (by rfl)) (fun p hp => Heap.lt_size (N p hp).1) (Heap.lt_size (N1 _ (List.Mem.head _)).1)
end
end Mine
end
section
local macro_rules | `(tactic| walk_at "own pad 0") => `(tactic| skip)
open PySem PySem.W PyProof.Rows PySem.Builtin.Re
set_option maxRecDepth 100000
set_option maxHeartbeats 4000000
set_option linter.unusedVariables false
namespace Mine
section
variable {prog : Program} {w : World} {A : Around} {E : Value → Shared → Prop} {s : Shared} {h₀ : Heap} {L : Addr} {m : Str → Option Value} {news : List (Addr × Obj)} {M : Model}
theorem upd_push {l : Addr} {vs : Array Value} {n : Nat} {v : Value} {Q : Unit → Shared → Prop} (F : Fr h₀ L s.heap m) (N : News h₀ L s.heap ((l, PySem.W.listOf vs n) :: news)) (hne : ∀ p ∈ news, p.1 ≠ l) (hz : vs.size ≤ 1000)
    (h : ∀ h', Fr h₀ L h' m → News h₀ L h' ((l, PySem.W.listOf (vs.push v) (n + 1)) :: news) → Q () { s with heap := h' }) : wpAny M A (updateSeq l (·.push v)) Q E s := by
  have z := N _ (List.Mem.head _)
  have e : Obj.mapSeq (·.push v) (PySem.W.listOf vs n) = PySem.W.listOf (vs.push v) (n + 1) := by simp [Obj.mapSeq]
  have hs : Heap.SameBut l s.heap (s.heap.update l (Obj.mapSeq (·.push v))) := Heap.SameBut.update ..
  have ge : (s.heap.update l (Obj.mapSeq (·.push v))).get? l = some (PySem.W.listOf (vs.push v) (n + 1)) := by
    rw [Heap.get?_update_self _ z.1 (by rw [e]; rfl), e]
  refine wpAny_updateSeq z.1 rfl (h _ (F.change hs z.2.1 z.2.2) fun p hp => ?_) (by rw [sizeLine_eq]; omega) (by rw [Array.size_push, sizeLine_eq]; omega)
  rcases List.mem_cons.mp hp with q | q
  · rw [q]; exact ⟨ge, z.2⟩
  · have y := N p (List.Mem.tail _ q)
    exact ⟨(hs.2 _ (hne p q)).trans y.1, y.2⟩
end
end Mine
end
section
local macro_rules | `(tactic| walk_at "own pad 0") => `(tactic| skip)
open PySem PySem.W PyProof.Rows PySem.Builtin.Re
set_option maxRecDepth 100000
set_option maxHeartbeats 4000000
set_option linter.unusedVariables false
namespace Mine
section
variable {prog : Program} {w : World} {A : Around} {E : Value → Shared → Prop} {s : Shared} {h₀ : Heap} {L : Addr} {m : Str → Option Value} {news : List (Addr × Obj)}
theorem slice_ok {M : Model} {x : Str} {b e : Nat} {Q : Value → Shared → Prop} (hx : x.length ≤ 1000) (h : Q (.str ⟨x.cps.extract b e⟩ s.toks) { s with toks := s.toks + 1 }) : wpAny M A (reSlice x.cps 0 b e) Q E s := by
  have hz : (⟨x.cps.extract b e⟩ : Str).length ≤ sizeLine := by
    show (x.cps.extract b e).size ≤ sizeLine
    have h1 : (x.cps.extract b e).size ≤ x.cps.size := by simp only [Array.size_extract]; omega
    have h2 : x.cps.size = x.length := rfl
    rw [sizeLine_eq]; omega
  unfold reSlice
  show wpAny M A (mkStr _) Q E s
  exact wpAny_mkStr h hz
theorem strV_push (ps : List (Str × Tok)) (y : Str) (t : Tok) : (strValues ps).toArray.push (.str y t) = (strValues (ps ++ [(y, t)])).toArray := by
  simp [strValues]
theorem strV_size (ps : List (Str × Tok)) : (strValues ps).toArray.size = ps.length := by simp [strValues]
theorem isEmpty_false {ps : List (Str × Tok)} (h : ps ≠ []) : ((some (strValues ps).toArray).getD #[]).isEmpty = false := by
  cases ps with
  | nil => exact absurd rfl h
  | cons a r => simp [strValues, Array.isEmpty]
theorem push_item {α : Type} {K : Unit → Sem α} {l : Addr} {ps : List (Str × Tok)} {nn : Nat} {y : Str} {u : Tok} {Q : α → Shared → Prop} (F : Fr h₀ L s.heap m) (N : News h₀ L s.heap ((l, PySem.W.listOf (strValues ps).toArray nn) :: news)) (hne : ∀ p ∈ news, p.1 ≠ l) (hz : ps.length ≤ 1000)
    (h : ∀ ps' h' nn', ps'.map (·.1) = ps.map (·.1) ++ [y] → ps'.length = ps.length + 1 → Fr h₀ L h' m → News h₀ L h' ((l, PySem.W.listOf (strValues ps').toArray nn') :: news) → wpAny (model prog w) A (K ()) Q E { s with heap := h' }) :
    wpAny (model prog w) A (updateSeq l (·.push (.str y u)) >>= K) Q E s := by
  refine wpAny_bind (upd_push F N hne (by rw [strV_size]; exact hz) fun h' F' N' => ?_)
  refine h (ps ++ [(y, u)]) h' (nn + 1) (by simp) (by simp) F' ?_
  rw [← strV_push]
  exact N'
theorem push_piece {α : Type} {K : Unit → Sem α} {l : Addr} {ps : List (Str × Tok)} {nn : Nat} {x : Str} {b e : Nat} {Q : α → Shared → Prop} (F : Fr h₀ L s.heap m) (N : News h₀ L s.heap ((l, PySem.W.listOf (strValues ps).toArray nn) :: news)) (hne : ∀ p ∈ news, p.1 ≠ l) (hz : ps.length ≤ 1000) (hx : x.length ≤ 1000)
    (h : ∀ ps' h' nn', ps'.map (·.1) = ps.map (·.1) ++ [⟨x.cps.extract b e⟩] → ps'.length = ps.length + 1 → Fr h₀ L h' m → News h₀ L h' ((l, PySem.W.listOf (strValues ps').toArray nn') :: news) → wpAny (model prog w) A (K ()) Q E { s with heap := h', toks := s.toks + 1 }) :
    wpAny (model prog w) A (reSlice x.cps 0 b e >>= fun v => updateSeq l (·.push v) >>= K) Q E s :=
  wpAny_bind (slice_ok hx (push_item (s := { s with toks := s.toks + 1 }) F N hne hz h))
theorem join_end {B : Around} {l : Addr} {ps : List (Str × Tok)} {nn : Nat} {x : Str} {parts : List Str} {R : Result → Shared → Prop} (hx : x.length ≤ 1000) (F : Fr h₀ L s.heap m) (N : News h₀ L s.heap ((l, PySem.W.listOf (strValues ps).toArray nn) :: news))
    (hps : ps.map (·.1) = parts) (hp0 : parts ≠ []) (hj : JoinOk ⟨x.cps.extract 0 0⟩ parts = true) (htk : 0 < s.toks) (ret : ∀ t' tk', 0 < tk' → R (.ok (.ret (.str (Txt.join ⟨x.cps.extract 0 0⟩ parts) t'))) { s with toks := tk' }) :
    wpAny (model prog w) A (do
      let joiner ← reSlice x.cps 0 0 0
      let __do_lift ← seqItems? (Value.ref l)
      if (__do_lift.getD #[]).isEmpty = true then do
        let __do_lift ← pure joiner
        PySem.ret __do_lift
      else do
        let __do_lift ← call (Value.builtin (if (((0:Nat) == 0) = true) then "str.join" else "bytes.join")) [joiner, Value.ref l]
        PySem.ret __do_lift) (fun fin s' => match fin with
        | .done f => R (.ok f) s'
        | .again c' => c'.quiet = true ∧ codeAny (model prog w) B c' R s') E s := by
  have z := N _ (List.Mem.head _)
  refine wpAny_bind (slice_ok hx ?_)
  refine wpAny_bind (wpAny_seqItems z.1 rfl ?_)
  have hps0 : ps ≠ [] := by rintro rfl; exact hp0 hps.symm
  have hie := isEmpty_false hps0
  rw [if_neg (fun h => Bool.noConfusion (hie.symm.trans h))]
  refine wpAny_bind ?_
  rw [if_pos (show ((0:Nat) == 0) = true from rfl)]
  refine wpAny_with_toks (n := 1) (by show 1 ≤ s.toks + 1; omega) (SC.join (l := ps) ⟨_, z.1, rfl, _, rfl⟩ hps hj fun t' k => ?_)
  exact fun hk => wpAny_pure (ret t' k hk)
theorem loop_ok {P C f l : Addr} {pat fl : Value} {tg tk0 t : Tok} {cs : Array Value} {n0 : Nat} {x : Str} {cb : Str → Option Str} {parts : List Str} {Q : Value → Shared → Prop}
    (hx : x.length ≤ 1000) (hne : ∀ p ∈ news, p.1 ≠ l)
    (hP : ∀ h, Fr h₀ L h m → h.get? P = some (patObj pat fl 1 tg tk0 C)) (hC : ∀ h, Fr h₀ L h m → h.get? C = some ⟨.type "tuple", none, .seq cs n0, #[]⟩)
    (hcb : ∀ g r, cb g = some r → ∀ (q sp : Addr) (a' b' c' : Value) (i j : Int) (u v : Nat) (more : List (Addr × Obj)) (h : Heap) (tk : Nat) (Q' E' : Value → Shared → Prop),
      (⟨x.cps.extract u v⟩ : Str) = g → Fr h₀ L h m → News h₀ L h ((q, matchObj x t (.ref P) a' b' c' sp) :: (sp, spanObj i j u v) :: more) → 0 < tk →
      (∀ t' h' tk', 0 < tk' → Fr h₀ L h' m → News h₀ L h' ((q, matchObj x t (.ref P) a' b' c' sp) :: (sp, spanObj i j u v) :: more) → Q' (.str r t') { s with heap := h', toks := tk' }) →
      wpAny (model prog w) A.in1 (call (.ref f) [.ref q]) Q' E' { s with heap := h, toks := tk })
    (hp0 : parts ≠ []) (hj : JoinOk ⟨x.cps.extract 0 0⟩ parts = true)
    (ret : ∀ t' h' tk' nn ps, 0 < tk' → Fr h₀ L h' m → News h₀ L h' ((l, PySem.W.listOf (strValues ps).toArray nn) :: news) → Q (.str (Txt.join ⟨x.cps.extract 0 0⟩ parts) t') { s with heap := h', toks := tk' }) :
    ∀ (fuel n start done : Nat) (must : Bool) (out : List Str) (ps : List (Str × Tok)) (nn : Nat) (h : Heap) (tk : Nat), subGo (codesOf cs) x cb fuel start done must out = some parts → ps.map (·.1) = out → ps.length + 2 * fuel ≤ 900 →
      Fr h₀ L h m → News h₀ L h ((l, PySem.W.listOf (strValues ps).toArray nn) :: news) → 0 < tk →
      codeAny (model prog w) A (loopCode P f x t n start done must l) (RV Q E) { s with heap := h, toks := tk } := by
  intro fuel
  induction fuel with
  | zero => intro n start done must out ps nn h tk hg; cases hg
  | succ fuel ih =>
    intro n start done must out ps nn h tk hg hps hsz F N htk
    refine codeAny_builtin entry_subLoop ?_
    rw [Around.under_plainId plain_subLoop _]
    unfold Builtin.«re.Pattern.sub.loop»
    dsimp only
    refine wpAny_bind (whole_ok (hP _ F) (hC _ F) ?_)
    simp only [rawInt]
    rw [if_neg (show ¬ (((1:Int) == 0) = true) by decide)]
    refine wpAny_bind ?_
    rw [if_neg (show ¬ (((0:Int) != 0 && decide ((n:Int) ≥ 0)) = true) by simp)]
    unfold reNextFound
    dsimp only [Int.toNat_natCast]
    unfold subGo at hg
    cases hd : driveK 300 (Sre.forSearch (codesOf cs) x.cps 1 start x.cps.size must) with
    | none => rw [hd] at hg; cases hg
    | some m' =>
    rw [hd] at hg
    dsimp only at hg
    cases he : endOf m' with
    | none => rw [he] at hg; cases hg
    | some b =>
    rw [he] at hg
    refine runEnd 300 (by decide) hd b he ?_
    cases b with
    | false =>
      dsimp only at hg
      cases hg
      simp only [Bool.false_eq_true, if_false]
      by_cases hdl : done < x.cps.size
      · rw [if_pos hdl] at hp0 hj ret
        rw [if_pos hdl]
        refine push_piece (s := { s with heap := h, toks := tk }) F N hne (by omega) hx fun ps' h' nn' hps' hl' F' N' => ?_
        exact join_end (s := { s with heap := h', toks := tk + 1 }) hx F' N' (by rw [hps', hps]) hp0 hj (Nat.succ_pos _) fun t' tk' hk' => ret t' h' tk' _ _ hk' F' N'
      · rw [if_neg hdl] at hp0 hj ret
        rw [if_neg hdl]
        exact join_end (s := { s with heap := h, toks := tk }) hx F N hps hp0 hj htk fun t' tk' hk' => ret t' h tk' _ _ hk' F N
    | true =>
      dsimp only at hg
      simp only [if_true]
      cases hs : spanOf m' with
      | none => rw [hs] at hg; cases hg
      | some be =>
      obtain ⟨b, e⟩ := be
      rw [hs] at hg
      dsimp only at hg
      cases hc : cb ⟨x.cps.extract b e⟩ with
      | none => rw [hc] at hg; cases hg
      | some r =>
      rw [hc] at hg
      dsimp only at hg
      rw [if_neg (show ¬ (((1:Int) == 0) = true) by decide)]
      have rest : ∀ (ps' : List (Str × Tok)) (h' : Heap) (nn' tk' : Nat), subGo (codesOf cs) x cb fuel m'.handed m'.handed (m'.handed == m'.start) (ps'.map (·.1) ++ [r]) = some parts → ps'.length ≤ ps.length + 1 → Fr h₀ L h' m → News h₀ L h' ((l, PySem.W.listOf (strValues ps').toArray nn') :: news) → 0 < tk' →
        wpAny (model prog w) A.in1 (reNewMatch (Value.ref P) (Value.str x t) 1 0 x.cps.size m' >>= fun found => holding [found] (if ((1:Int) == 1) = true then call (Value.ref f) [found] else do
            let __do_lift ← reFound found
            reExpand (Value.ref f) __do_lift) >>= fun item => if (item != Value.none) = true then (updateSeq l (fun x => x.push item) >>= fun _ => again
            (Code.builtin "re.Pattern.sub.loop"
              {
                pos :=
                  [Value.ref P, Value.str x t, Value.ref f, Value.int 1 0, Value.int 0 0, Value.int (n + 1) 0,
                    Value.int (m'.handed) 0, Value.int (m'.handed) 0, Value.bool (m'.handed == m'.start), Value.ref l,
                    Value.bool false] })) else again
          (Code.builtin "re.Pattern.sub.loop"
            {
              pos :=
                [Value.ref P, Value.str x t, Value.ref f, Value.int 1 0, Value.int 0 0, Value.int (n + 1) 0,
                  Value.int (m'.handed) 0, Value.int (m'.handed) 0, Value.bool (m'.handed == m'.start), Value.ref l,
                  Value.bool false] })) (fun fin s' => match fin with | Fin.done f => RV Q E (Except.ok f) s' | Fin.again c' => c'.quiet = true ∧ codeAny (model prog w) A c' (RV Q E) s')
           (fun e s' => RV Q E (Except.error e) s') { s with heap := h', toks := tk' } := by
        intro ps' h' nn' tk' hg' hl' F' N' htk'
        refine wpAny_bind (newMatch1 (s := { s with heap := h', toks := tk' }) F' N' hs fun q sp h2 F2 N2 _ _ => ?_)
        refine wpAny_bind (wpAny_holding ?_)
        rw [if_pos (show ((1:Int) == 1) = true from rfl)]
        refine hcb _ r hc q sp _ _ _ _ _ _ _ _ h2 tk' _ _ rfl F2 N2 htk' fun t' h3 tk3 htk3 F3 N3 => ?_
        rw [if_pos (show (Value.str r t' != Value.none) = true from rfl)]
        refine push_item (s := { s with heap := h3, toks := tk3 }) F3 (subL N3 fun p hp => List.Mem.tail _ (List.Mem.tail _ hp)) hne (by omega) fun ps4 h4 nn4 hps4 hl4 F4 N4 => ?_
        refine wpAny_pure ⟨plainId_quiet plain_subLoop _, ?_⟩
        exact ih (n + 1) m'.handed m'.handed _ _ ps4 nn4 h4 tk3 hg' hps4 (by omega) F4 N4 htk3
      by_cases hdl : done < m'.start
      · rw [if_pos hdl] at hg
        rw [if_pos hdl]
        refine push_piece (s := { s with heap := h, toks := tk }) F N hne (by omega) hx fun ps' h' nn' hps' hl' F' N' => ?_
        exact rest ps' h' nn' (tk + 1) (by rw [hps', hps]; exact hg) (by omega) F' N' (Nat.succ_pos _)
      · rw [if_neg hdl] at hg
        rw [if_neg hdl]
        exact rest ps h nn tk (by rw [hps]; exact hg) (by omega) F N htk
end
end Mine
end
section
local macro_rules | `(tactic| walk_at "own pad 0") => `(tactic| skip)
open PySem PySem.W PyProof.Rows PySem.Calls PySem.Spec PySem.Builtin.Re
set_option maxRecDepth 100000
set_option maxHeartbeats 8000000
set_option linter.unusedVariables false
namespace Mine
def rxChar : Array Nat := #[14, 8, 1, 3, 4294967295, 1, 1, 38, 0, 16, 38, 17, 0, 7, 18, 16, 35, 24, 10, 1, 7, 13, 5, 22, 48, 57, 0, 1, 16, 59, 15, 56, 31, 16, 35, 13, 6, 16, 120, 16, 88, 0, 24, 16, 1, 4294967295, 13, 11, 9, 0, 67043328, 126, 126, 0, 0, 0, 0, 0, 1, 16, 59, 15, 25, 23, 24, 17, 1, 32, 13, 12, 21, 9, 5632, 402653257, 0, 0, 0, 0, 0, 0, 0, 1, 16, 59, 15, 2, 0, 17, 1, 1]
def cbMap (g : Str) : Option Str :=
  if g = Str.ofString "amp;" then some (Str.ofString "&") else
  if g = Str.ofString "copy;" then some (Str.ofString "©") else
  if g = Str.ofString "#65;" then some (Str.ofString "A") else
  if g = Str.ofString "#x41;" then some (Str.ofString "A") else
  if g = Str.ofString "#X41;" then some (Str.ofString "A") else
  if g = Str.ofString "bogus;" then some (Str.ofString "&bogus;") else
  if g = Str.ofString "#0;" then some (Str.ofString "&#0;") else
  if g = Str.ofString "lt;" then some (Str.ofString "<") else
  if g = Str.ofString "quot;" then some (Str.ofString "\"") else
  if g = Str.ofString "nbsp;" then some (Str.ofString "\u00a0") else
  if g = Str.ofString "#55296;" then some (Str.ofString "&#55296;") else
  if g = Str.ofString "#x110000;" then some (Str.ofString "&#x110000;") else
  none
section
variable {w : World} {p : Program} {loose : List Str} {mean : ExcName → Option Value} {mg mb : Str → Option Value}
  {dp un : Nat} {gd : Option (List Code)} {cn : Str} {cs : Scope} {a : Addr} {ccd : Value} {cl : List (Str × Addr)} {outer : List Env} {A₀ : Around} {base h₀ : Heap} {L : Addr} {m : Str → Option Value} {s : Shared} {Q E : Value → Shared → Prop} {news : List (Addr × Obj)}


theorem charref_all {g r : Str} {q sp : Addr} {x : Str} {t : Tok} {pat a' b' c' : Value} {i j : Int} {u v : Nat} (B : Below A₀ base outer h₀) (F : Fr h₀ L s.heap m) (X : (hd.heap_39 w.params).In h₀)
  (N : News h₀ L s.heap ((q, matchObj x t pat a' b' c' sp) :: (sp, spanObj i j u v) :: news)) (T : Top p loose mean mg mb h₀) (hk : cs.kind = .function)
  (hdp : dp + 10 < recursionLimit) (hu : un + 30 < cLine) (htk : 0 < s.toks) (hx : x.length ≤ 1000) (hg : (⟨x.cps.extract u v⟩ : Str) = g) (hc : cbMap g = some r)
  (ret : ∀ t' h' tk', 0 < tk' → Fr h₀ L h' m → News h₀ L h' ((q, matchObj x t pat a' b' c' sp) :: (sp, spanObj i j u v) :: news) → Q (.str r t') { s with heap := h', toks := tk' }) :
  wpAny (model PySem.Challenge.rw_bq5017_02.row.prog w) (ktrTop dp un gd cn cs L a ccd cl outer) (call (.ref 60) [.ref q] []) Q E s := by
  unfold cbMap at hc
  split at hc
  · next e => cases hc; exact charref_amp B F X N T hk hdp hu htk hx (hg.trans e) ret
  split at hc
  · next e => cases hc; exact charref_copy B F X N T hk hdp hu htk hx (hg.trans e) ret
  split at hc
  · next e => cases hc; exact charref_n65 B F X N T hk hdp hu htk hx (hg.trans e) ret
  split at hc
  · next e => cases hc; exact charref_x41 B F X N T hk hdp hu htk hx (hg.trans e) ret
  split at hc
  · next e => cases hc; exact charref_X41 B F X N T hk hdp hu htk hx (hg.trans e) ret
  split at hc
  · next e => cases hc; exact charref_bogus B F X N T hk hdp hu htk hx (hg.trans e) ret
  split at hc
  · next e => cases hc; exact charref_n0 B F X N T hk hdp hu htk hx (hg.trans e) ret
  split at hc
  · next e => cases hc; exact charref_lt B F X N T hk hdp hu htk hx (hg.trans e) ret
  split at hc
  · next e => cases hc; exact charref_quot B F X N T hk hdp hu htk hx (hg.trans e) ret
  split at hc
  · next e => cases hc; exact charref_nbsp B F X N T hk hdp hu htk hx (hg.trans e) ret
  split at hc
  · next e => cases hc; exact charref_n55 B F X N T hk hdp hu htk hx (hg.trans e) ret
  split at hc
  · next e => cases hc; exact charref_x11 B F X N T hk hdp hu htk hx (hg.trans e) ret
  cases hc
theorem kept {K : Frag} {h : Heap} {b : Addr} {o : Obj} (X : K.In h₀) (e : K.lookup b = some o) (F : Fr h₀ L h m) : h.get? b = some o := F.keep _ _ (X b o e)
end
end Mine
end
section
local macro_rules | `(tactic| walk_at "own pad 0") => `(tactic| skip)
open PySem PySem.W PyProof.Rows PySem.Calls PySem.Spec PySem.Builtin.Re
set_option maxRecDepth 100000
set_option maxHeartbeats 8000000
set_option linter.unusedVariables false
namespace Mine
section
variable {w : World} {p : Program} {loose : List Str} {mean : ExcName → Option Value} {mg mb : Str → Option Value}
  {dp un : Nat} {gd : Option (List Code)} {cn : Str} {cs : Scope} {a : Addr} {ccd : Value} {cl : List (Str × Addr)} {outer : List Env} {A₀ : Around} {base h₀ : Heap} {L : Addr} {m : Str → Option Value} {s : Shared} {Q E : Value → Shared → Prop} {news : List (Addr × Obj)}
theorem sub_char {x : Str} {t : Tok} {parts : List Str} (B : Below A₀ base outer h₀) (F : Fr h₀ L s.heap m) (X : (hd.heap_39 w.params).In h₀) (N : News h₀ L s.heap news) (T : Top p loose mean mg mb h₀) (hk : cs.kind = .function)
  (hdp : dp + 10 < recursionLimit) (hu : un + 32 < cLine) (htk : 0 < s.toks) (hx : x.length ≤ 1000) (hs : subGo rxChar x cbMap 40 0 0 false [] = some parts) (hp0 : parts ≠ []) (hj : JoinOk ⟨x.cps.extract 0 0⟩ parts = true)
  (ret : ∀ t' h' tk', 0 < tk' → Fr h₀ L h' m → News h₀ L h' news → Q (.str (Txt.join ⟨x.cps.extract 0 0⟩ parts) t') { s with heap := h', toks := tk' }) :
  wpAny (model PySem.Challenge.rw_bq5017_02.row.prog w) (ktrTop dp un gd cn cs L a ccd cl outer) (call (.builtin "re.Pattern.sub") [.ref 250, .ref 60, .str x t]) Q E s := by
  revert X
  k_fill
  intro X
  obtain ⟨cs', n', lC, hcs⟩ : ∃ cs' n', (hd.heap_39 w.params).lookup 249 = some ⟨.type "tuple", none, .seq cs' n', #[]⟩ ∧ codesOf cs' = rxChar := ⟨_, _, by k_is, by kernel_rfl⟩
  obtain ⟨pat, fl, tg, tk0, lP⟩ : ∃ pat fl tg tk0, (hd.heap_39 w.params).lookup 250 = some (patObj pat fl 1 tg tk0 249) := ⟨_, _, _, _, by k_is⟩
  obtain ⟨o, lf, hf⟩ : ∃ o : Obj, (hd.heap_39 w.params).lookup 60 = some o ∧ o.cls = .type "function" := ⟨_, by k_is, rfl⟩
  rw [← hcs] at hs
  refine sub_call (P := 250) (C := 249) (f := 60) F N (kept X lP F) (kept X lC F) (kept X lf F) hf fun l h' F' N' hl => ?_
  refine loop_ok (news := news) hx (fun p hp => Nat.ne_of_lt (hl p hp)) (fun h F => kept X lP F) (fun h F => kept X lC F) (fun g r hc q sp a' b' c' i j u v more h tk Q' E' hg F2 N2 htk2 ret2 => ?cb) hp0 hj (fun t' h2 tk' nn ps htk2 F2 N2 => ret t' h2 tk' htk2 F2 (subL N2 fun p hp => List.Mem.tail _ hp)) 40 0 0 0 false [] [] 0 h' s.toks hs rfl (by decide) F' N' htk
  case cb =>
    exact charref_all (un := un + 1) (s := { s with heap := h, toks := tk }) B F2 X N2 T hk hdp (by omega) htk2 hx hg hc ret2
end
end Mine
end
section
theorem Mine.start18 : True := by w_top off; trivial
open PySem PySem.W PyProof.Rows PySem.Calls PySem.Spec
set_option maxRecDepth 100000
set_option maxHeartbeats 8000000
set_option linter.unusedVariables false
local macro_rules | `(tactic| k_room) => `(tactic| ktr_room)
local macro_rules | `(tactic| k_all) => `(tactic| first | assumption | exact Mine.neAll (by assumption))
local macro_rules | `(tactic| k_lt $h:ident) => `(tactic| (replace $h := allLt_of $h; simp only [AllLt, and_true] at $h:ident; (repeat (have lx := And.left $h; replace $h := And.right $h))))
local macro_rules | `(tactic| ktr_enter) => `(tactic| (refine' code_def ?k1 ?k2 ?k3 ?k4 ?k5 ?kA ?kF ?kK ?k6 ?k7 ?k8 ?k9 ?kB ?_ ?c2 ?c3 ?c4 ?c5; (case kA => exact rfl); (case kF => exact rfl); (case kK => first | exact rfl | assumption); (case k1 => k_asm); (case k2 => k_asm); (case k3 => k_asm); (case k4 => k_asm); (case k5 => k_asm); (case k6 => k_is); (case k7 => k_is); (case k8 => ktr_room); (case k9 => first | exact BindsTo.of_eq rfl | exact binds_K (by k_in) rfl (by k_is) rfl rfl rfl); (case c5 => decide); (case kB => exact locs rfl); (case c2 => exact rfl); (case c3 => exact rfl); (case c4 => exact rfl); k_whole; intro g' L' h' FG' F' N' B' X' T'; (try dsimp only); (try k_lift B'); (try k_fold)))
local macro_rules | `(tactic| walk_at "call ref") => `(tactic| (k_here; k_dflt (
  (refine' call_cls ?k1 ?k2 ?k3 ?k4 ?k5 ?k6 ?_; (case k1 => k_asm); (case k2 => k_asm); (case k3 => k_asm); (case k4 => k_is); (case k5 => k_is); (case k6 => k_is); intro x' d' h' F' N' l1 l2; (try k_lt l1); (try k_lt2 l2); 
   (refine' ks_code_super ?k1 ?k2 ?k3 ?k4 ?k5 ?kA ?kF ?kK ?k6 ?k7 ?k8 ?k9 ?kB ?_ ?c1 ?c2 ?c3 ?c4; (case kA => exact rfl); (case kF => exact rfl); (case kK => first | exact rfl | assumption); (case k1 => k_asm); (case k2 => k_asm); (case k3 => k_asm); (case k4 => k_asm); (case k5 => k_asm); (case k6 => k_is); (case k7 => k_is); (case k8 => ktr_room); (case k9 => first | exact BindsTo.of_eq rfl | exact binds_K (by k_in) rfl (by k_is) rfl rfl rfl); (case kB => exact locs rfl); (case c1 => decide); (case c2 => exact rfl); (case c3 => exact rfl); (case c4 => exact rfl); intro g' L' h' FG' F' N' B' X' T' l1; (try k_lt l1); (try dsimp only); (try k_lift B'))))))
local macro_rules | `(tactic| walk_at "eval Name") => `(tactic| (k_here; k_dflt (refine' nameX_B ?F ?X ?T ?e ?v ?n ?_ ?a ?b; (case F => k_asm); (case X => k_asm); (case T => k_asm); (case a => rfl); (case b => rfl); (case e => k_is); (case v => first | boot_by_name | kernel_rfl); (case n => decide); k_whole)))
local macro_rules | `(tactic| walk_at "call type:super") => `(tactic| (k_here; k_dflt (refine' Mine.super2 ?F ?X ?N ?I ?c ?d ?_; (case F => k_asm); (case X => k_asm); (case N => k_asm); (case I => k_inst); (case c => k_is); (case d => k_is);  intro so' h' F' N' l1; (try k_lt l1))))

local macro_rules | `(tactic| walk_at "ite") => `(tactic| (first | refine ite_neg (by decide) ?_ | refine ite_pos (by decide) ?_ | refine ite_neg (by decide +kernel) ?_ | refine ite_pos (by decide +kernel) ?_))
local macro_rules | `(tactic| walk_at "forall") => `(tactic| (k_here; intro htk; (try dsimp only at htk); (try dsimp only)))
local macro_rules | `(tactic| walk_at "execs cons") => `(tactic| (k_here; k_dflt (refine' Mine.execs_cons_T ?h ?_; (case h => first | assumption | ((try dsimp only); omega)))))
local macro_rules | `(tactic| walk_at "execs cons") => `(tactic| (k_here; (fail_if_success (refine' Mine.gen_toks (by with_reducible assumption) ?_)); (try dsimp only); refine' Mine.gen_toks (by omega) ?_; intro tk htk))
local macro_rules | `(tactic| walk_at "execs nil") => `(tactic| (k_here; (fail_if_success (refine' Mine.gen_toks (by with_reducible assumption) ?_)); (try dsimp only); refine' Mine.gen_toks (by omega) ?_; intro tk htk))
local macro_rules | `(tactic| walk_at "call builtin:str.replace") => `(tactic| (k_here; k_dflt ((try dsimp only); refine' Mine.replaceT ?a ?b ?c ?d ?e ?f ?g ?_; (case a => (try dsimp only); omega); (case b => (try dsimp only); omega); (case c => (try dsimp only); omega); (case d => (try dsimp only); omega); (case e => decide); (case f => omega); (case g => decide); intro t' k' hk' hl')))

local macro_rules | `(tactic| walk_at "getMethod ref") => `(tactic| (k_here; k_dflt (refine' Mine.sub_get ?h ?_; (case h => exact Mine.kept (by k_asm) (by k_is) (by k_asm)))))
local macro_rules | `(tactic| walk_at "call builtin:re.Pattern.sub") => `(tactic| (k_here; k_dflt (refine' Mine.sub_char ?B ?F ?X ?N ?T ?hk ?hdp ?hu ?htk ?hx ?hs ?hp0 ?hj ?_; (case B => k_asm); (case F => k_asm); (case X => k_in); (case N => k_asm); (case T => k_asm); (case hk => exact rfl); (case hdp => (try dsimp only); omega); (case hu => (try dsimp only); omega); (case htk => (try dsimp only); omega); (case hx => assumption); (case hs => assumption); (case hp0 => assumption); (case hj => assumption); intro t' h' tk' htk' F' N')))
namespace Mine
open Builtin.Str in
def unesc (x : Str) : Option Str := if (occurrences x (Str.ofString "&") 0 x.length 1).isEmpty = true then some x else match subGo rxChar x cbMap 40 0 0 false [] with
  | none => none
  | some ps => if ps ≠ [] ∧ JoinOk ⟨x.cps.extract 0 0⟩ ps = true then some (Txt.join ⟨x.cps.extract 0 0⟩ ps) else none
section
variable {w : World} {p : Program} {loose : List Str} {mean : ExcName → Option Value} {mg mb : Str → Option Value}
  {dp un : Nat} {gd : Option (List Code)} {cn : Str} {cs : Scope} {a : Addr} {ccd : Value} {cl : List (Str × Addr)} {outer : List Env} {A₀ : Around} {base h₀ : Heap} {L : Addr} {m : Str → Option Value} {s : Shared} {Q E : Value → Shared → Prop} {news : List (Addr × Obj)}


theorem plain_ok {x : Str} {t : Tok} (B : Below A₀ base outer h₀) (F : Fr h₀ L s.heap m) (X : (hd.heap_39 w.params).In h₀) (N : News h₀ L s.heap news) (T : Top p loose mean mg mb h₀) (hk : cs.kind = .function)
  (hdp : dp + 10 < recursionLimit) (hu : un + 30 < cLine) (htk : 0 < s.toks) (hx : x.length ≤ 2000)
  (ret : ∀ t' h' tk', 0 < tk' → Fr h₀ L h' m → News h₀ L h' news → Q (.str (escF x) t') { s with heap := h', toks := tk' }) :
  wpAny (model PySem.Challenge.rw_bq5017_02.row.prog w) (ktrTop dp un gd cn cs L a ccd cl outer) (call (.ref 585) [.str x t] []) Q E s := by
  revert X
  k_fill
  intro X
  refine wpAny_call ?_
  k_dflt ktr_enter
  k_steps
  all_goals (refine ret _ _ _ ?_ (by assumption) (subL (by assumption) (by intro p hp; repeat (first | assumption | refine List.Mem.tail _ ?_))))
  all_goals ((try dsimp only); omega)
theorem unescape_ok {x y : Str} {t : Tok} (B : Below A₀ base outer h₀) (F : Fr h₀ L s.heap m) (X : (hd.heap_39 w.params).In h₀) (N : News h₀ L s.heap news) (T : Top p loose mean mg mb h₀) (hk : cs.kind = .function)
  (hdp : dp + 20 < recursionLimit) (hu : un + 60 < cLine) (htk : 0 < s.toks) (hx : x.length ≤ 1000) (hy : unesc x = some y)
  (ret : ∀ t' h' tk', 0 < tk' → Fr h₀ L h' m → News h₀ L h' news → Q (.str y t') { s with heap := h', toks := tk' }) :
  wpAny (model PySem.Challenge.rw_bq5017_02.row.prog w) (ktrTop dp un gd cn cs L a ccd cl outer) (call (.ref 257) [.str x t] []) Q E s := by
  revert X
  k_fill
  intro X
  unfold unesc at hy
  by_cases ha : (Builtin.Str.occurrences x (Str.ofString "&") 0 x.length 1).isEmpty = true
  · rw [if_pos ha] at hy
    cases hy
    refine wpAny_call ?_
    k_dflt ktr_enter
    k_steps
    all_goals first
      | (exfalso; simp_all; done)
      | (refine ret _ _ _ ?_ (by assumption) (subL (by assumption) (by intro p hp; repeat (first | assumption | refine List.Mem.tail _ ?_))); ((try dsimp only); omega))
  · rw [if_neg ha] at hy
    cases hs : subGo rxChar x cbMap 40 0 0 false [] with
    | none => rw [hs] at hy; cases hy
    | some ps =>
    rw [hs] at hy
    dsimp only at hy
    by_cases hc : ps ≠ [] ∧ JoinOk ⟨x.cps.extract 0 0⟩ ps = true
    · rw [if_pos hc] at hy
      cases hy
      obtain ⟨hp0, hj⟩ := hc
      refine wpAny_call ?_
      k_dflt ktr_enter
      k_steps

      all_goals first
        | (exfalso; simp_all; done)
        | (refine ret _ _ _ ?_ (by assumption) (subL (by assumption) (by intro p hp; repeat (first | assumption | refine List.Mem.tail _ ?_))); ((try dsimp only); omega))
    · rw [if_neg hc] at hy; cases hy
end
end Mine
end
section
open PySem PySem.W PyProof.Rows PySem.Calls PySem.Spec Builtin.Str
set_option linter.unusedVariables false
namespace Mine
theorem replace_no {x y z : Str} (h : occurrences x y 0 x.length (x.length + 1) = []) : Txt.replace x y z = x := by
  unfold Txt.replace
  rw [h]
  rfl
theorem occ_no {x : Str} {c lim : Nat} (h : c ∉ x.cps) : occurrences x ⟨#[c]⟩ 0 x.length lim = [] := by
  refine occ_nil_of_no x ⟨#[c]⟩ lim fun i hi => ?_
  cases hs : subAt x ⟨#[c]⟩ i with
  | false => rfl
  | true =>
    exfalso
    have e := beq_iff_eq.mp hs
    have : c ∈ x.cps.extract i (i + (⟨#[c]⟩ : Str).length) := by rw [e]; simp
    obtain ⟨k, hk, e2⟩ := Array.mem_extract_iff_getElem.mp this
    exact h (e2 ▸ Array.getElem_mem _)
def plainTxt (x : Str) : Prop := 38 ∉ x.cps ∧ 60 ∉ x.cps ∧ 62 ∉ x.cps ∧ 34 ∉ x.cps
theorem escF_plain {x : Str} (h : plainTxt x) : escF x = x := by
  unfold escF
  rw [replace_no (y := Str.ofString "&") (occ_no (c := 38) h.1), replace_no (y := Str.ofString "<") (occ_no (c := 60) h.2.1), replace_no (y := Str.ofString ">") (occ_no (c := 62) h.2.2.1), replace_no (y := Str.ofString "\"") (occ_no (c := 34) h.2.2.2)]
theorem unesc_plain {x : Str} (h : plainTxt x) : unesc x = some x := by
  unfold unesc
  have e : occurrences x (Str.ofString "&") 0 x.length 1 = [] := occ_no (c := 38) h.1
  rw [e]
  rfl
theorem int_codes (n : Int) : ∀ c ∈ (Str.ofString (toString n)).cps, c = 45 ∨ (48 ≤ c ∧ c ≤ 57) := by
  have nat : ∀ (k : Nat), ∀ d ∈ (Nat.repr k).toList, 48 ≤ d.toNat ∧ d.toNat ≤ 57 := by
    intro k d hd
    have h1 : d ∈ Nat.toDigits 10 k := by simpa [Nat.repr] using hd
    have h2 := Nat.isDigit_of_mem_toDigits (b := 10) (by decide) (by decide) h1
    simp only [Char.isDigit, Bool.and_eq_true, decide_eq_true_eq] at h2
    exact ⟨h2.1, h2.2⟩
  intro c hc
  rw [Str.ofString_eq_toList] at hc
  simp only [List.mem_toArray, List.mem_map] at hc
  obtain ⟨d, hd, rfl⟩ := hc
  cases n with
  | ofNat k => exact .inr (nat k d hd)
  | negSucc k =>
    have e : toString (Int.negSucc k) = "-" ++ Nat.repr (k + 1) := rfl
    rw [e, String.toList_append] at hd
    rcases List.mem_append.mp hd with h | h
    · left
      have : d = '-' := by simpa using h
      rw [this]; rfl
    · exact .inr (nat _ d h)
theorem int_plain (n : Int) : plainTxt (Str.ofString (toString n)) := by
  have h := int_codes n
  refine ⟨fun hc => ?_, fun hc => ?_, fun hc => ?_, fun hc => ?_⟩ <;> · have := h _ hc; omega
theorem int_len {n : Int} (hn : -1000000 < n ∧ n < 1000000) : (Str.ofString (toString n)).length ≤ 1000 := by
  rw [Str.ofString_eq_toList]
  show ((toString n).toList.map Char.toNat).toArray.size ≤ 1000
  simp only [List.size_toArray, List.length_map, String.length_toList]
  cases n with
  | ofNat k =>
    have := nat_repr_length_le (n := k) (k := 20) (by decide) (by have := hn.2; simp only [Int.ofNat_eq_natCast] at this; omega)
    exact Nat.le_trans this (by decide)
  | negSucc k =>
    have e : toString (Int.negSucc k) = "-" ++ Nat.repr (k + 1) := rfl
    rw [e, String.length_append]
    have := nat_repr_length_le (n := k + 1) (k := 20) (by decide) (by have := hn.1; omega)
    have h1 : ("-" : String).length = 1 := rfl
    omega
end Mine
end
section
theorem Mine.start20 : True := by w_top off; trivial
open PySem PySem.W PyProof.Rows PySem.Calls PySem.Spec
set_option maxRecDepth 100000
set_option maxHeartbeats 8000000
set_option linter.unusedVariables false
local macro_rules | `(tactic| k_room) => `(tactic| ktr_room)
local macro_rules | `(tactic| k_all) => `(tactic| first | assumption | exact Mine.neAll (by assumption))
local macro_rules | `(tactic| k_lt $h:ident) => `(tactic| (replace $h := allLt_of $h; simp only [AllLt, and_true] at $h:ident; (repeat (have lx := And.left $h; replace $h := And.right $h))))
local macro_rules | `(tactic| ktr_enter) => `(tactic| (refine' code_def ?k1 ?k2 ?k3 ?k4 ?k5 ?kA ?kF ?kK ?k6 ?k7 ?k8 ?k9 ?kB ?_ ?c2 ?c3 ?c4 ?c5; (case kA => exact rfl); (case kF => exact rfl); (case kK => first | exact rfl | assumption); (case k1 => k_asm); (case k2 => k_asm); (case k3 => k_asm); (case k4 => k_asm); (case k5 => k_asm); (case k6 => k_is); (case k7 => k_is); (case k8 => ktr_room); (case k9 => first | exact BindsTo.of_eq rfl | exact binds_K (by k_in) rfl (by k_is) rfl rfl rfl); (case c5 => decide); (case kB => exact locs rfl); (case c2 => exact rfl); (case c3 => exact rfl); (case c4 => exact rfl); k_whole; intro g' L' h' FG' F' N' B' X' T'; (try dsimp only); (try k_lift B'); (try k_fold)))
local macro_rules | `(tactic| walk_at "call ref") => `(tactic| (k_here; k_dflt (
  (refine' call_cls ?k1 ?k2 ?k3 ?k4 ?k5 ?k6 ?_; (case k1 => k_asm); (case k2 => k_asm); (case k3 => k_asm); (case k4 => k_is); (case k5 => k_is); (case k6 => k_is); intro x' d' h' F' N' l1 l2; (try k_lt l1); (try k_lt2 l2); 
   (refine' ks_code_super ?k1 ?k2 ?k3 ?k4 ?k5 ?kA ?kF ?kK ?k6 ?k7 ?k8 ?k9 ?kB ?_ ?c1 ?c2 ?c3 ?c4; (case kA => exact rfl); (case kF => exact rfl); (case kK => first | exact rfl | assumption); (case k1 => k_asm); (case k2 => k_asm); (case k3 => k_asm); (case k4 => k_asm); (case k5 => k_asm); (case k6 => k_is); (case k7 => k_is); (case k8 => ktr_room); (case k9 => first | exact BindsTo.of_eq rfl | exact binds_K (by k_in) rfl (by k_is) rfl rfl rfl); (case kB => exact locs rfl); (case c1 => decide); (case c2 => exact rfl); (case c3 => exact rfl); (case c4 => exact rfl); intro g' L' h' FG' F' N' B' X' T' l1; (try k_lt l1); (try dsimp only); (try k_lift B'))))))
local macro_rules | `(tactic| walk_at "eval Name") => `(tactic| (k_here; k_dflt (refine' nameX_B ?F ?X ?T ?e ?v ?n ?_ ?a ?b; (case F => k_asm); (case X => k_asm); (case T => k_asm); (case a => rfl); (case b => rfl); (case e => k_is); (case v => first | boot_by_name | kernel_rfl); (case n => decide); k_whole)))
local macro_rules | `(tactic| walk_at "call type:super") => `(tactic| (k_here; k_dflt (refine' Mine.super2 ?F ?X ?N ?I ?c ?d ?_; (case F => k_asm); (case X => k_asm); (case N => k_asm); (case I => k_inst); (case c => k_is); (case d => k_is);  intro so' h' F' N' l1; (try k_lt l1))))

local macro_rules | `(tactic| walk_at "ite") => `(tactic| (first | refine ite_neg (by decide) ?_ | refine ite_pos (by decide) ?_ | refine ite_neg (by decide +kernel) ?_ | refine ite_pos (by decide +kernel) ?_))
local macro_rules | `(tactic| walk_at "forall") => `(tactic| (k_here; intro htk; (try dsimp only at htk); (try dsimp only)))
local macro_rules | `(tactic| walk_at "execs cons") => `(tactic| (k_here; k_dflt (refine' Mine.execs_cons_T ?h ?_; (case h => first | assumption | ((try dsimp only); omega)))))
local macro_rules | `(tactic| walk_at "execs cons") => `(tactic| (k_here; (fail_if_success (refine' Mine.gen_toks (by with_reducible assumption) ?_)); (try dsimp only); refine' Mine.gen_toks (by omega) ?_; intro tk htk))
local macro_rules | `(tactic| walk_at "execs nil") => `(tactic| (k_here; (fail_if_success (refine' Mine.gen_toks (by with_reducible assumption) ?_)); (try dsimp only); refine' Mine.gen_toks (by omega) ?_; intro tk htk))
local macro_rules | `(tactic| walk_at "call builtin:str.replace") => `(tactic| (k_here; k_dflt ((try dsimp only); refine' Mine.replaceT ?a ?b ?c ?d ?e ?f ?g ?_; (case a => (try dsimp only); omega); (case b => (try dsimp only); omega); (case c => (try dsimp only); omega); (case d => (try dsimp only); omega); (case e => decide); (case f => omega); (case g => decide); intro t' k' hk' hl')))
local macro_rules | `(tactic| walk_at "own k_con") => `(tactic| (first | k_asm | k_in | assumption | exact rfl | ((try dsimp only); omega)))
local macro_rules | `(tactic| walk_at "call ref") => `(tactic| (k_here; (with_reducible show wpAny _ _ (call (Value.ref 257) _ _) _ _ _); k_dflt (refine' Mine.unescape_ok ?B ?F ?X ?N ?T ?hk ?hdp ?hu ?htk ?hx ?hs ?_; (case B => k_asm); (case F => k_asm); (case X => k_in); (case N => k_asm); (case T => k_asm); (case hk => exact rfl); (case hdp => (try dsimp only); omega); (case hu => (try dsimp only); omega); (case htk => (try dsimp only); omega); (case hx => assumption); (case hs => assumption); intro t' h' tk' htk' F' N')))
local macro_rules | `(tactic| walk_at "call ref") => `(tactic| (k_here; (with_reducible show wpAny _ _ (call (Value.ref 238) _ _) _ _ _); k_dflt (refine' Mine.escape_ok ?B ?F ?X ?N ?T ?hk ?hdp ?hu ?htk ?hx ?_; (case B => k_asm); (case F => k_asm); (case X => k_in); (case N => k_asm); (case T => k_asm); (case hk => exact rfl); (case hdp => (try dsimp only); omega); (case hu => (try dsimp only); omega); (case htk => (try dsimp only); omega); (case hx => assumption); intro t' h' tk' htk' F' N')))
namespace Mine
section
variable {w : World} {p : Program} {loose : List Str} {mean : ExcName → Option Value} {mg mb : Str → Option Value}
  {dp un : Nat} {gd : Option (List Code)} {cn : Str} {cs : Scope} {a : Addr} {ccd : Value} {cl : List (Str × Addr)} {outer : List Env} {A₀ : Around} {base h₀ : Heap} {L : Addr} {m : Str → Option Value} {s : Shared} {Q E : Value → Shared → Prop} {news : List (Addr × Obj)}

theorem safe_ok {x y : Str} {t : Tok} (B : Below A₀ base outer h₀) (F : Fr h₀ L s.heap m) (X : (hd.heap_39 w.params).In h₀) (N : News h₀ L s.heap news) (T : Top p loose mean mg mb h₀) (hk : cs.kind = .function)
  (hdp : dp + 30 < recursionLimit) (hu : un + 80 < cLine) (htk : 0 < s.toks) (hx : x.length ≤ 1000) (hy : unesc x = some y) (hy2 : y.length ≤ 2000)
  (ret : ∀ t' h' tk', 0 < tk' → Fr h₀ L h' m → News h₀ L h' news → Q (.str (escF y) t') { s with heap := h', toks := tk' }) :
  wpAny (model PySem.Challenge.rw_bq5017_02.row.prog w) (ktrTop dp un gd cn cs L a ccd cl outer) (call (.ref 245) [.str x t] []) Q E s := by
  revert X
  k_fill
  intro X
  refine wpAny_call ?_
  k_dflt ktr_enter
  k_steps
  all_goals (refine ret _ _ _ ?_ (by assumption) (subL (by assumption) (by intro p hp; repeat (first | assumption | refine List.Mem.tail _ ?_))))
  all_goals ((try dsimp only); omega)
end
end Mine
local macro_rules | `(tactic| walk_at "call ref") => `(tactic| (k_here; (with_reducible show wpAny _ _ (call (Value.ref 245) _ _) _ _ _); k_dflt (refine' Mine.safe_ok ?B ?F ?X ?N ?T ?hk ?hdp ?hu ?htk ?hx ?hs ?hs2 ?_; (case B => k_asm); (case F => k_asm); (case X => k_in); (case N => k_asm); (case T => k_asm); (case hk => exact rfl); (case hdp => (try dsimp only); omega); (case hu => (try dsimp only); omega); (case htk => (try dsimp only); omega); (case hx => assumption); (case hs => assumption); (case hs2 => assumption); intro t' h' tk' htk' F' N')))

namespace Mine
section
variable {w : World} {p : Program} {loose : List Str} {mean : ExcName → Option Value} {mg mb : Str → Option Value}
  {dp un : Nat} {gd : Option (List Code)} {cn : Str} {cs : Scope} {a : Addr} {ccd : Value} {cl : List (Str × Addr)} {outer : List Env} {A₀ : Around} {base h₀ : Heap} {L : Addr} {m : Str → Option Value} {s : Shared} {Q E : Value → Shared → Prop} {news : List (Addr × Obj)}


theorem attr_str {x y : Str} {o d : Addr} {t : Tok} (B : Below A₀ base outer h₀) (F : Fr h₀ L s.heap m) (X : (hd.heap_39 w.params).In h₀) (N : News h₀ L s.heap news) (T : Top p loose mean mg mb h₀) (hk : cs.kind = .function)
  (hdp : dp + 40 < recursionLimit) (hu : un + 100 < cLine) (htk : 0 < s.toks) (hx : x.length ≤ 1000) (hy : unesc x = some y) (hy2 : y.length ≤ 2000)
  (ret : ∀ t' h' tk', 0 < tk' → Fr h₀ L h' m → News h₀ L h' news → Q (.str (escF y) t') { s with heap := h', toks := tk' }) :
  wpAny (model PySem.Challenge.rw_bq5017_02.row.prog w) (ktrTop dp un gd cn cs L a ccd cl outer) (call (.ref 320) [.ref o, .str x t] []) Q E s := by
  revert X
  k_fill
  intro X
  refine wpAny_call ?_
  k_dflt ktr_enter
  k_steps
  all_goals (refine ret _ _ _ ?_ (by assumption) (subL (by assumption) (by intro p hp; repeat (first | assumption | refine List.Mem.tail _ ?_))))
  all_goals ((try dsimp only); omega)
theorem attr_int {n : Int} {o d : Addr} {t : Tok} (B : Below A₀ base outer h₀) (F : Fr h₀ L s.heap m) (X : (hd.heap_39 w.params).In h₀) (N : News h₀ L s.heap news) (T : Top p loose mean mg mb h₀) (hk : cs.kind = .function)
  (hdp : dp + 40 < recursionLimit) (hu : un + 100 < cLine) (htk : 0 < s.toks) (hn : -1000000 < n ∧ n < 1000000)
  (ret : ∀ t' h' tk', 0 < tk' → Fr h₀ L h' m → News h₀ L h' news → Q (.str (Str.ofString (toString n)) t') { s with heap := h', toks := tk' }) :
  wpAny (model PySem.Challenge.rw_bq5017_02.row.prog w) (ktrTop dp un gd cn cs L a ccd cl outer) (call (.ref 320) [.ref o, .int n t] []) Q E s := by
  revert X
  k_fill
  intro X
  have hx := int_len hn
  have hx2 : (Str.ofString (toString n)).length ≤ 2000 := by omega
  have hy := unesc_plain (int_plain n)
  have he := escF_plain (int_plain n)
  refine wpAny_call ?_
  k_dflt ktr_enter
  k_steps
  all_goals (refine lit_ret he (ret _ _ _ ?_ (by assumption) (subL (by assumption) (by intro p hp; repeat (first | assumption | refine List.Mem.tail _ ?_)))))
  all_goals ((try dsimp only); omega)
end
end Mine
end
section
open PySem PySem.W PyProof.Rows PySem.Spec PyProof.V
set_option maxRecDepth 100000
set_option maxHeartbeats 4000000
set_option linter.unusedVariables false
namespace Mine
section
variable {prog : Program} {w : World} {K : Type} [DecidableEq K] {knd : KeyKind prog w K} {A : Around} {E : Value → Shared → Prop} {s : Shared} {env : Env} {h₀ : Heap}
/-- how a turn of a loop may end -/
def TurnEnd (h₀ : Heap) (L : Addr) (own : List (Addr × Obj)) (J : (Str → Option Value) → List (Addr × Obj) → Prop) (s : Shared) (f : Flow) (s' : Shared) : Prop :=
  (f = .next ∨ f = .cont) ∧ ∃ h' tk' m' nx', 0 < tk' ∧ s' = { s with heap := h', toks := tk' } ∧ Fr h₀ L h' m' ∧ News h₀ L h' (own ++ nx') ∧ J m' nx'
theorem pairs_loop {R : Result → Shared → Prop} {xk xv : Str} {pk pv pt : Pos} {x1} {body : List Stmt} {it d : Addr} {oA : Obj} {kvs : List (K × Value)} {ep : Nat} {m : Str → Option Value} {nx : List (Addr × Obj)}
    (hh : A.handled = none) (hxk : env.kindOf xk = some .local) (hxv : env.kindOf xv = some .local)
    (hp : (env.scope.kind == .class || (env.scope.kind == .module && env.locals != env.globals)) = false)
    (hiL : it ≠ env.locals) (hin : h₀.get? it = none)
    (hit : IsItemIter s.heap it d 0 kvs.length ep .none .none) (hm : s.heap.DictAt knd d kvs ep) (hd : s.heap.get? d = some oA) (F : Fr h₀ env.locals s.heap m) (N : News h₀ env.locals s.heap nx)
    (J : Nat → (Str → Option Value) → List (Addr × Obj) → Prop) (h0 : J 0 m nx) (htk : 0 < s.toks)
    (off : ∀ i m nx, J i m nx → (d, oA) ∈ nx ∧ ∀ p ∈ nx, p.1 ≠ it)
    (step : ∀ i k v key m₁ nx₁ h tk io, kvs[i]? = some (k, v) → knd.is k key = true → J i m₁ nx₁ → 0 < tk →
      Fr h₀ env.locals h (fun y => if y = xv then some v else if y = xk then some key else m₁ y) → News h₀ env.locals h ([(it, io)] ++ nx₁) →
      wpAny (model prog w) A (execs body env) (TurnEnd h₀ env.locals [(it, io)] (J (i + 1)) { s with heap := h, toks := tk }) (notedBy (model prog w) A env fun e s' => R (.error e) s') { s with heap := h, toks := tk })
    (hR : ∀ h' tk m' nx', 0 < tk → Fr h₀ env.locals h' m' → News h₀ env.locals h' nx' → J kvs.length m' nx' → R (.ok .next) { s with heap := h', toks := tk }) :
    codeAny (model prog w) A (.forLoop (.Tuple [.Name xk pk, .Name xv pv] x1 pt) (.ref it) body [] env) R s := by
  obtain ⟨oA', es, hg0, hrest⟩ := id hm
  rw [hd] at hg0
  obtain rfl := Option.some.inj hg0
  have dictIn : ∀ {H : Heap} {nx}, News h₀ env.locals H nx → (d, oA) ∈ nx → H.DictAt knd d kvs ep := fun N hp => ⟨oA, es, (N _ hp).1, hrest⟩
  refine codeAny_forLoop_any
    (fun n s' => ∃ H tk m' nx' i ok ov, s' = { s with heap := H, toks := tk } ∧ 0 < tk ∧ IsItemIter H it d i kvs.length ep ok ov ∧ Fr h₀ env.locals H m' ∧ News h₀ env.locals H nx' ∧ J i m' nx' ∧ i ≤ kvs.length ∧
      n = kvs.length + 1 - i) ?_ (kvs.length + 1)
    ⟨s.heap, s.toks, m, nx, 0, .none, .none, rfl, htk, hit, F, N, h0, Nat.zero_le _, rfl⟩
  rintro n s' ⟨H, tk, m', nx', i, ok, ov, rfl, htk', hit', F', N', hJ, hi, rfl⟩
  obtain ⟨hdn, hnw⟩ := off i m' nx' hJ
  have hm' := dictIn N' hdn
  have hdi : d ≠ it := hnw _ hdn
  have hdL : d ≠ env.locals := (N' _ hdn).2.1
  have hn' := F'.ns
  have oldNe : ∀ b o, h₀.get? b = some o → b ≠ it := fun b o e q => by rw [q, hin] at e; cases e
  cases hv : kvs[i]? with
  | none =>
    have hsz : i = kvs.length := Nat.le_antisymm hi (by simpa using hv)
    refine wpAny_pyNext_items_end hh hit' hm' hv fun h₁ he₁ => wpAny_execs_nil ?_
    exact hR h₁ tk m' nx' htk' ⟨hn'.extBut he₁ (Ne.symm hiL), fun b o e => he₁ b o (oldNe b o e) (F'.keep b o e), F'.above⟩
      (fun p hp => ⟨he₁ _ _ (hnw p hp) (N' p hp).1, (N' p hp).2⟩) (hsz ▸ hJ)
  | some kv =>
    obtain ⟨k, v⟩ := kv
    have hlt : i < kvs.length := (List.getElem?_eq_some_iff.mp hv).1
    have hiH : it < H.objs.size := Heap.lt_size hit'
    refine wpAny_pyNext_items_item hit' hm' hv fun key h₁ hkey heo ht₁ hz₁ hk₁ => ?_
    refine wpAny_letOwnedTupleGo_items heo fun h₂ he₂ hs₂ => ?_
    replace hs₂ : Heap.SameBut it h₁ h₂ := hs₂
    have ht₂ : h₂.IsTuple H.objs.size #[key, v] := ⟨_, (hs₂.2 _ (Nat.ne_of_gt hiH)).trans ht₁, rfl, _, rfl⟩
    have hz₂ : h₂.objs.size = H.objs.size + 1 := hs₂.1.trans hz₁
    refine wpAny_assign_Tuple hh ht₂ rfl rfl fun h₃ hx₃ => ?_
    replace hx₃ : Heap.ExtBut h₂.objs.size h₂ h₃ := hx₃
    have up₃ : ∀ b o, b ≠ it → H.get? b = some o → h₃.get? b = some o := fun b o hb x => hx₃ b o (by rw [hz₂]; exact Nat.ne_of_lt (Nat.lt_succ_of_lt (Heap.lt_size x))) (hs₂.extBut b o hb (hk₁ b o hb x))
    have it₃ := hx₃ it _ (by rw [hz₂]; exact Nat.ne_of_lt (Nat.lt_succ_of_lt hiH)) he₂
    have F₃ : Fr h₀ env.locals h₃ m' := ⟨hn'.at fun o x => up₃ _ o (Ne.symm hiL) x, fun b o e => up₃ b o (oldNe b o e) (F'.keep b o e), F'.above⟩
    have N₃ : News h₀ env.locals h₃ ([(it, _)] ++ nx') := fun p hp => by
      rcases List.mem_cons.mp hp with e | hp
      · rw [e]; exact ⟨it₃, hiL, hin⟩
      · exact ⟨up₃ _ _ (hnw p hp) (N' p hp).1, (N' p hp).2⟩
    show wpAny _ _ (do holding [v] (assign (.Name xk pk) env key); holding [] (assign (.Name xv pv) env v); pure ()) _ _ _
    refine wpAny_bind (wpAny_holding (wpAny_assign_Name (wpAny_storeName_local hxk F₃.ns (fun h₄ hn₄ hs₄ => ?_) hp)))
    have F₄ := F₃.set hn₄ hs₄
    refine wpAny_bind (wpAny_holding (wpAny_assign_Name (wpAny_storeName_local hxv F₄.ns (fun h₅ hn₅ hs₅ => wpAny_pure ?_) hp)))
    have F₅ := F₄.set hn₅ hs₅
    have N₅ : News h₀ env.locals h₅ ([(it, _)] ++ nx') := (N₃.set hs₄).set hs₅
    show wpAny (model prog w) A (execs body env) _ _ { s with heap := h₅, toks := tk + 1 + 1 }
    refine wpAny_mono (step i k v key m' nx' h₅ (tk + 1 + 1) _ hv hkey hJ (Nat.succ_pos _) F₅ N₅) (fun f s₃ h₆ => ?_) fun _ _ x => x
    obtain ⟨hf, h₆, tk₆, m₂, nx₂, htk₆, rfl, F₆, N₆, hJ₆⟩ := h₆
    have fin : ∃ m, m < kvs.length + 1 - i ∧ ∃ H tk m' nx' i ok ov, ({ s with heap := h₆, toks := tk₆ } : Shared) = { s with heap := H, toks := tk } ∧ 0 < tk ∧ IsItemIter H it d i kvs.length ep ok ov ∧ Fr h₀ env.locals H m' ∧ News h₀ env.locals H nx' ∧ J i m' nx' ∧ i ≤ kvs.length ∧
      m = kvs.length + 1 - i :=
      ⟨kvs.length + 1 - (i + 1), by omega, h₆, tk₆, m₂, nx₂, i + 1, key, v, rfl, htk₆, (N₆ _ (List.mem_append_left _ (List.Mem.head _))).1, F₆, fun p hp => N₆ p (List.mem_append_right _ hp), hJ₆, hlt, rfl⟩
    rcases hf with rfl | rfl
    · exact fin
    · exact fin
theorem iter_pairs {Q : Flow → Shared → Prop} {xk xv : Str} {body : List Stmt} {vw d : Addr} {oA : Obj} {kvs : List (K × Value)} {m : Str → Option Value} {nx : List (Addr × Obj)}
    (hh : A.handled = none) (hxk : env.kindOf xk = some .local) (hxv : env.kindOf xv = some .local)
    (hp : (env.scope.kind == .class || (env.scope.kind == .module && env.locals != env.globals)) = false)
    (hvw : s.heap.IsItemsView vw d) (hA : oA.IsDictOf knd kvs) (hd : (d, oA) ∈ nx) (F : Fr h₀ env.locals s.heap m) (N : News h₀ env.locals s.heap nx)
    (J : Nat → (Str → Option Value) → List (Addr × Obj) → Prop) (h0 : J 0 m nx) (htk : 0 < s.toks)
    (off : ∀ i m nx, J i m nx → (d, oA) ∈ nx ∧ ∀ p ∈ nx, p.1 ≠ s.heap.objs.size)
    (step : ∀ i k v key m₁ nx₁ h tk io, kvs[i]? = some (k, v) → knd.is k key = true → J i m₁ nx₁ → 0 < tk →
      Fr h₀ env.locals h (fun y => if y = xv then some v else if y = xk then some key else m₁ y) → News h₀ env.locals h ([(s.heap.objs.size, io)] ++ nx₁) →
      wpAny (model prog w) A (execs body env) (TurnEnd h₀ env.locals [(s.heap.objs.size, io)] (J (i + 1)) { s with heap := h, toks := tk }) E { s with heap := h, toks := tk })
    (done : ∀ h' tk m' nx', 0 < tk → Fr h₀ env.locals h' m' → News h₀ env.locals h' nx' → J kvs.length m' nx' → Q .next { s with heap := h', toks := tk })
    (hE : PassesOwn (model prog w) A env E) :
    wpAny (model prog w) A (pyIter (.ref vw)) (fun it s₂ => PairLoopAt prog w A h₀ env xk xv body Q E it s₂) E s := by
  have hdo : s.heap.DictOf knd d kvs := Heap.dictOf_iff.mpr ⟨oA, (N _ hd).1, hA⟩
  obtain ⟨ep, hat⟩ := hdo.dictAt
  refine wpAny_pyIter_items (knd := knd) (d := d) (kvs := kvs) (ep := ep) hvw hat ?_
  intro pk pv pt x1
  refine pairs_loop (knd := knd) (oA := oA) hh hxk hxv hp (Nat.ne_of_gt F.ns.lt) (next_is_new F)
    (Heap.get?_push_size _ rfl) (hat.push _) (Heap.get?_push_of_some _ (N _ hd).1) (F.push _) (fun p hp => ⟨Heap.get?_push_of_some _ (N p hp).1, (N p hp).2⟩) J h0 htk off ?_ ?_
  · intro i k v key m₁ nx₁ h tk io hx hkey hJ htk F₁ N₁
    exact wpAny_passesOwn hE (step i k v key m₁ nx₁ h tk io hx hkey hJ htk F₁ N₁)
  · intro h' tk m' nx' htk F' N' hJ
    exact done h' tk m' nx' htk F' N' hJ
theorem items_call {L d : Addr} {oA : Obj} {kvs : List (K × Value)} {m : Str → Option Value} {nx : List (Addr × Obj)} {Q : Value → Shared → Prop} (hA : oA.IsDictOf knd kvs) (hd : (d, oA) ∈ nx) (F : Fr h₀ L s.heap m) (N : News h₀ L s.heap nx) (hsys : (d == sysModules) = false)
    (h : ∀ vw h', h'.IsItemsView vw d → Fr h₀ L h' m → News h₀ L h' nx → (∀ p ∈ nx, p.1 < vw) → vw < h'.objs.size → Q (.ref vw) { s with heap := h' }) :
    wpAny (model prog w) A (call (.builtin "dict.items") [.ref d]) Q E s := by
  have hdo : s.heap.DictOf knd d kvs := Heap.dictOf_iff.mpr ⟨oA, (N _ hd).1, hA⟩
  exact call_meetsIn PySem.F.slot_dict_items hdo.typeIs PySem.F.entry_dict_items (PySem.F.args_dict_items_1 _) (meets_dict_items knd d hsys)
    ⟨⟨kvs, hdo⟩, h _ _ ⟨_, Heap.get?_push_size _ rfl, rfl, rfl⟩ (F.push _) (fun p hp => ⟨Heap.get?_push_of_some _ (N p hp).1, (N p hp).2⟩) (fun p hp => Heap.lt_size (N p hp).1) (by simp [Heap.push])⟩
theorem For_pairF {Q : Flow → Shared → Prop} {xk xv : Str} {pk pv pt pos : Pos} {x1 : Nat} {iter : Expr} {body : List Stmt} {m : Str → Option Value} {L : Addr} (F : Fr h₀ L s.heap m) (hL : env.locals = L)
    (h : wpAny (model prog w) A (eval iter env) (fun xvl s₁ => wpAny (model prog w) A (pyIter xvl) (fun it s₂ => PairLoopAt prog w A h₀ env xk xv body Q E it s₂) E s₁) E s)
    (hs : ∀ x, foldedSetIterable iter env x = pure x := by intro _; rfl) :
    wpAny (model prog w) A (exec (.For (.Tuple [.Name xk pk, .Name xv pv] x1 pt) iter body [] pos) env) Q E s := For_pair_inv h₀ h hs
end
end Mine
end
section
open PySem PySem.W PyProof.Rows PySem.Calls PySem.Spec PySem.Builtin.Re
set_option maxRecDepth 100000
set_option maxHeartbeats 8000000
set_option linter.unusedVariables false
namespace Mine
structure Held (P : Prop) : Prop where
  out : P
inductive Wr where
  | skip
  | alone
  | txt (y : Str)
def VRel (v : Value) : Wr → Prop
  | .skip => v = .none ∨ v = .bool false
  | .alone => v = .bool true
  | .txt y => y.length ≤ 1000 ∧ ((∃ n t, v = .int n t ∧ (-1000000 < n ∧ n < 1000000) ∧ y = Str.ofString (toString n)) ∨ (∃ x t z, v = .str x t ∧ x.length ≤ 1000 ∧ unesc x = some z ∧ z.length ≤ 2000 ∧ y = escF z))
abbrev At := Str × Value × Wr
def pieceOf (n : Str) : Wr → List Str
  | .skip => []
  | .alone => [Str.ofString " " ++ n]
  | .txt y => [Str.ofString " " ++ n ++ Str.ofString "=\"" ++ y ++ Str.ofString "\""]
def piecesOf (l : List At) : List Str := l.flatMap fun a => pieceOf a.1 a.2.2
def GoodA (a : At) : Prop := a.1.length ≤ 1000 ∧ (nameRes a.1 = some true ∨ nameRes a.1 = some false) ∧ VRel a.2.1 a.2.2
def kvOf (l : List At) : List (Str × Value) := l.map fun a => (a.1, a.2.1)
section
variable {w : World} {p : Program} {loose : List Str} {mean : ExcName → Option Value} {mg mb : Str → Option Value}
  {A : Around} {h₀ : Heap} {L : Addr} {m : Str → Option Value} {s : Shared} {Q E : Value → Shared → Prop} {news : List (Addr × Obj)}
theorem full_attr {x : Str} {t : Tok} {b : Bool} (F : Fr h₀ L s.heap m) (X : (hd.heap_39 w.params).In h₀) (N : News h₀ L s.heap news) (hn : nameRes x = some b)
  (ret : ∀ v h', Fr h₀ L h' m → (b = true → ∃ q vs, v = .ref q ∧ News h₀ L h' ((q, ⟨.type "re.Match", none, .fields vs, #[]⟩) :: news) ∧ (∀ p ∈ news, p.1 < q)) → (b = false → v = .none ∧ News h₀ L h' news) → Q v { s with heap := h' }) :
  wpAny (model PySem.Challenge.rw_bq5017_02.row.prog w) A (call (.builtin "re.Pattern.fullmatch") [.ref 279, .str x t]) Q E s := by
  revert X
  k_fill
  intro X
  obtain ⟨cs', n', lC, hcs⟩ : ∃ cs' n', (hd.heap_39 w.params).lookup 278 = some ⟨.type "tuple", none, .seq cs' n', #[]⟩ ∧ codesOf cs' = rxAttr := ⟨_, _, by k_is, by kernel_rfl⟩
  obtain ⟨pat, fl, tg, tk0, lP⟩ : ∃ pat fl tg tk0, (hd.heap_39 w.params).lookup 279 = some (patObj pat fl 0 tg tk0 278) := ⟨_, _, _, _, by k_is⟩
  unfold nameRes at hn
  cases hd' : driveK 100 (Sre.forMatch rxAttr x.cps 0 (min (0 : Int).toNat x.cps.size) (min ((2 : Int) ^ 63 - 1).toNat x.cps.size) true false) with
  | none => rw [hd'] at hn; cases hn
  | some m' =>
  rw [hd'] at hn
  rw [← hcs] at hd'
  refine fullmatch_ok F N (kept X lP F) (kept X lC F) 100 (by decide) hd' b hn (fun hb q vs h' F' N' l => ?_) (fun hb => ?_)
  · exact ret _ h' F' (fun _ => ⟨q, vs, rfl, N', l⟩) (fun h => by rw [hb] at h; cases h)
  · exact ret _ s.heap F (fun h => by rw [hb] at h; cases h) (fun _ => ⟨rfl, N⟩)
theorem full_true {x : Str} {t : Tok} (F : Fr h₀ L s.heap m) (X : (hd.heap_39 w.params).In h₀) (N : News h₀ L s.heap news) (hn : nameRes x = some true)
  (ret : ∀ q vs h', Fr h₀ L h' m → News h₀ L h' ((q, ⟨.type "re.Match", none, .fields vs, #[]⟩) :: news) → (∀ p ∈ news, p.1 < q) → Q (.ref q) { s with heap := h' }) :
  wpAny (model PySem.Challenge.rw_bq5017_02.row.prog w) A (call (.builtin "re.Pattern.fullmatch") [.ref 279, .str x t]) Q E s :=
  full_attr F X N hn fun v h' F' h1 _ => by
    obtain ⟨q, vs, rfl, N', l⟩ := h1 rfl
    exact ret q vs h' F' N' l
theorem full_false {x : Str} {t : Tok} (F : Fr h₀ L s.heap m) (X : (hd.heap_39 w.params).In h₀) (N : News h₀ L s.heap news) (hn : nameRes x = some false)
  (ret : ∀ h', Fr h₀ L h' m → News h₀ L h' news → Q .none { s with heap := h' }) :
  wpAny (model PySem.Challenge.rw_bq5017_02.row.prog w) A (call (.builtin "re.Pattern.fullmatch") [.ref 279, .str x t]) Q E s :=
  full_attr F X N hn fun v h' F' _ h0 => by
    obtain ⟨rfl, N'⟩ := h0 rfl
    exact ret h' F' N'
theorem fullget {K : Frag} {C : Addr} {pat fl : Value} {g : Nat} {tg tk : Tok} {P : Addr} {pl : Sem Bool} {prog : Program} {Q : Value × List Value → Shared → Prop} (X : K.In h₀) (e : K.lookup P = some (patObj pat fl g tg tk C)) (F : Fr h₀ L s.heap m) (h : Q (.builtin "re.Pattern.fullmatch", [.ref P]) s) :
    wpAny (model prog w) A (getMethod (.ref P) "fullmatch" pl) Q E s := fullmatch_get (F.keep _ _ (X _ _ e)) h
end
abbrev mOf {h₀ h : Heap} {L : Addr} {m : Str → Option Value} (_ : Fr h₀ L h m) : Str → Option Value := m
abbrev headOf {h₀ h : Heap} {L R : Addr} {o : Obj} {rest : List (Addr × Obj)} (_ : News h₀ L h ((R, o) :: rest)) : Addr := R
abbrev tailOf {h₀ h : Heap} {L R : Addr} {o : Obj} {rest : List (Addr × Obj)} (_ : News h₀ L h ((R, o) :: rest)) : List (Addr × Obj) := rest
def set2 (xk xv : Str) (m2 m' : Str → Option Value) : Prop := m' = m2 ∨ ∃ a b, m' = fun y => if y = xv then some b else if y = xk then some a else m2 y
theorem fr_turn {h₀ h : Heap} {L : Addr} {xk xv : Str} {a b : Value} {m2 m' : Str → Option Value} (hs : set2 xk xv m2 m') (F : Fr h₀ L h (fun y => if y = xv then some b else if y = xk then some a else m' y)) : Fr h₀ L h (fun y => if y = xv then some b else if y = xk then some a else m2 y) := by
  rcases hs with rfl | ⟨a', b', rfl⟩
  · exact F
  · have e : (fun y => if y = xv then some b else if y = xk then some a else (if y = xv then some b' else if y = xk then some a' else m2 y)) = fun y => if y = xv then some b else if y = xk then some a else m2 y := by
      funext y
      by_cases h1 : y = xv
      · simp [h1]
      · by_cases h2 : y = xk
        · simp [h1, h2]
        · simp [h1, h2]
    exact e ▸ F
theorem set2_mk {xk xv : Str} {a b : Value} {m2 : Str → Option Value} : set2 xk xv m2 (fun y => if y = xv then some b else if y = xk then some a else m2 y) := .inr ⟨a, b, rfl⟩
def RJ (m2 : Str → Option Value) (R : Addr) (rest : List (Addr × Obj)) (l : List At) (i : Nat) (m' : Str → Option Value) (nx : List (Addr × Obj)) : Prop :=
  (∀ a ∈ l.take i, nameRes a.1 = some true) ∧ set2 (Str.ofString "name") (Str.ofString "value") m2 m' ∧ ∃ ps nn, nx = (R, PySem.W.listOf (strValues ps).toArray nn) :: rest ∧ ps.map (·.1) = piecesOf (l.take i)
theorem RJ0 {m2 : Str → Option Value} {R : Addr} {rest : List (Addr × Obj)} {l : List At} : RJ m2 R rest l 0 m2 ((R, PySem.W.listOf #[] 0) :: rest) := ⟨fun _ h => by simp at h, .inl rfl, [], 0, rfl, rfl⟩
theorem foldl_len {b : Nat} : ∀ (l : List Str) (acc : Nat), (∀ x ∈ l, x.length ≤ b) → l.foldl (fun n x => n + x.length) acc ≤ acc + l.length * b := by
  intro l
  induction l with
  | nil => intro acc _; simp
  | cons a r ih =>
    intro acc h
    have h1 := h a (List.Mem.head _)
    have h2 := ih (acc + a.length) (fun x hx => h x (List.Mem.tail _ hx))
    rw [List.foldl_cons, List.length_cons, Nat.succ_mul]
    omega
theorem joinOk_of {l : List Str} {b : Nat} (h : ∀ x ∈ l, x.length ≤ b) (hb : l.length * b ≤ 1000000) : JoinOk (Str.ofString "") l = true := by
  unfold JoinOk
  have e : l.toArray.foldl (fun n x => n + x.length + (Str.ofString "").length) 0 = l.foldl (fun n x => n + x.length) 0 := by
    rw [List.foldl_toArray]
    rfl
  have h2 := foldl_len l 0 h
  have h3 : ¬ (l.toArray.foldl (fun n x => n + x.length + (Str.ofString "").length) 0 > sizeLine) := by rw [e, sizeLine_eq]; omega
  show (!decide (l.toArray.foldl (fun n x => n + x.length + (Str.ofString "").length) 0 > sizeLine)) = true
  rw [decide_eq_false h3]
  rfl
theorem app_length (x y : Str) : (x ++ y).length = x.length + y.length := by
  show (x.cps ++ y.cps).size = _
  simp [Str.length]
theorem piece_len {a : At} (h : GoodA a) : ∀ x ∈ pieceOf a.1 a.2.2, x.length ≤ 3000 := by
  obtain ⟨n, v, wr⟩ := a
  obtain ⟨hn, _, hv⟩ := h
  dsimp only at *
  have e1 : (Str.ofString " ").length = 1 := rfl
  have e2 : (Str.ofString "=\"").length = 2 := rfl
  have e3 : (Str.ofString "\"").length = 1 := rfl
  cases wr with
  | skip => intro x hx; cases hx
  | alone => intro x hx; rw [List.mem_singleton.mp hx, app_length, e1]; omega
  | txt y => intro x hx; have hy := hv.1; rw [List.mem_singleton.mp hx, app_length, app_length, app_length, app_length, e1, e2, e3]; omega
theorem pieces_len {l : List At} (h : ∀ a ∈ l, GoodA a) : ∀ x ∈ piecesOf l, x.length ≤ 3000 := by
  intro x hx
  obtain ⟨a, ha, hx⟩ := List.mem_flatMap.mp hx
  exact piece_len (h a ha) x hx
theorem pieces_count : ∀ (l : List At), (piecesOf l).length ≤ l.length := by
  intro l
  induction l with
  | nil => exact Nat.le_refl _
  | cons a r ih =>
    have e : piecesOf (a :: r) = pieceOf a.1 a.2.2 ++ piecesOf r := rfl
    rw [e, List.length_append, List.length_cons]
    have : (pieceOf a.1 a.2.2).length ≤ 1 := by
      cases a.2.2 <;> simp [pieceOf]
    omega
theorem pieces_join {l : List At} (h : ∀ a ∈ l, GoodA a) (hl : l.length ≤ 100) : JoinOk (Str.ofString "") (piecesOf l) = true :=
  joinOk_of (pieces_len h) (by have := pieces_count l; omega)
theorem pieces_take {l : List At} {i : Nat} {a : At} (h : l[i]? = some a) : piecesOf (l.take (i + 1)) = piecesOf (l.take i) ++ pieceOf a.1 a.2.2 := by
  rw [List.take_add_one, h]
  unfold piecesOf
  rw [List.flatMap_append]
  simp
theorem take_names {l : List At} {i : Nat} {a : At} (h : l[i]? = some a) (hall : ∀ a ∈ l.take i, nameRes a.1 = some true) (ha : nameRes a.1 = some true) : ∀ a ∈ l.take (i + 1), nameRes a.1 = some true := by
  rw [List.take_add_one, h]
  intro b hb
  rcases List.mem_append.mp hb with hb | hb
  · exact hall b hb
  · simp at hb; rw [hb]; exact ha
theorem kv_get {l : List At} {i : Nat} {n : Str} {v : Value} (h : (kvOf l)[i]? = some (n, v)) : ∃ wr, l[i]? = some (n, v, wr) := by
  unfold kvOf at h
  rw [List.getElem?_map] at h
  cases e : l[i]? with
  | none => rw [e] at h; cases h
  | some a =>
    rw [e] at h
    obtain ⟨n', v', wr⟩ := a
    cases h
    exact ⟨wr, rfl⟩
theorem RJ_next {m2 m' : Str → Option Value} {R : Addr} {rest : List (Addr × Obj)} {l : List At} {i : Nat} {n : Str} {v : Value} {wr : Wr} {ps : List (Str × Tok)} {nn : Nat} (hx : l[i]? = some (n, v, wr)) (hall : ∀ a ∈ l.take i, nameRes a.1 = some true) (hn : nameRes n = some true)
    (hm : set2 (Str.ofString "name") (Str.ofString "value") m2 m') (hps : ps.map (·.1) = piecesOf (l.take i) ++ pieceOf n wr) : RJ m2 R rest l (i + 1) m' ((R, PySem.W.listOf (strValues ps).toArray nn) :: rest) :=
  ⟨take_names hx hall hn, hm, ps, nn, rfl, by rw [pieces_take hx]; exact hps⟩
theorem noBool_match : typeLookup (.type "re.Match") "__bool__" = pure none := by rw [typeLookup_type, builtinLookup_eq_fast]; kernel_rfl
theorem noLen_match : typeLookup (.type "re.Match") "__len__" = pure none := by rw [typeLookup_type, builtinLookup_eq_fast]; kernel_rfl
section
variable {prog : Program} {w : World} {A : Around} {E : Value → Shared → Prop} {s : Shared}
theorem truthy_match {q : Addr} {vs : Array Value} {Q : Bool → Shared → Prop} (hq : s.heap.get? q = some ⟨.type "re.Match", none, .fields vs, #[]⟩) (h : Q true s) : wpAny (model prog w) A (truthy (.ref q)) Q E s := by
  have hT : s.TypeIs (.ref q) "re.Match" := ⟨_, hq, rfl⟩
  unfold truthy
  first
    | refine wpAny_bind (wpAny_callSpecial?_none (name := Str.ofString "__bool__") hT noBool_match ?_)
    | refine wpAny_bind (wpAny_pure (wpAny_bind (wpAny_callSpecial?_none (name := Str.ofString "__bool__") hT noBool_match ?_)))
  first
    | refine wpAny_bind (wpAny_specialOf (name := Str.ofString "__len__") hT noLen_match ?_)
    | refine wpAny_bind (wpAny_pure (wpAny_bind (wpAny_specialOf (name := Str.ofString "__len__") hT noLen_match ?_)))
  exact wpAny_pure h
end
section
variable {prog : Program} {w : World} {A : Around} {E : Value → Shared → Prop} {s : Shared} {h₀ : Heap} {L : Addr} {m : Str → Option Value}
theorem append_any {l : Addr} {vs : Array Value} {nn : Nat} {x : Value} {nx rest : List (Addr × Obj)} {Q : Value → Shared → Prop} (F : Fr h₀ L s.heap m) (N : News h₀ L s.heap nx) (hl : (l, PySem.W.listOf vs nn) ∈ nx) (hr : ∀ p ∈ rest, p ∈ nx) (hne : ∀ p ∈ rest, p.1 ≠ l) (hz : vs.size ≤ 1000)
    (h : ∀ h', Fr h₀ L h' m → News h₀ L h' ((l, PySem.W.listOf (vs.push x) (nn + 1)) :: rest) → Q .none { s with heap := h' }) :
    wpAny (model prog w) A (call (.builtin "list.append") [.ref l, x]) Q E s := by
  have N1 : News h₀ L s.heap ((l, PySem.W.listOf vs nn) :: rest) := fun p hp => by
    rcases List.mem_cons.mp hp with e | hp
    · rw [e]; exact N _ hl
    · exact N p (hr p hp)
  refine wpAny_call_entry slot_list_append ⟨_, (N1 _ (List.Mem.head _)).1, rfl⟩ entry_list_append ?_ (args_list_append _ _)
  show wpAny _ _ (updateSeq l (·.push x) >>= fun _ => ret .none) _ _ s
  refine wpAny_bind (upd_push F N1 hne hz fun h' F' N' => wpAny_pure ⟨.none, rfl, h h' F' N'⟩)
theorem append_str {l : Addr} {ps : List (Str × Tok)} {nn : Nat} {y : Str} {u : Tok} {nx rest : List (Addr × Obj)} {Q : Value → Shared → Prop} (F : Fr h₀ L s.heap m) (N : News h₀ L s.heap nx) (hl : (l, PySem.W.listOf (strValues ps).toArray nn) ∈ nx) (hr : ∀ p ∈ rest, p ∈ nx) (hne : ∀ p ∈ rest, p.1 ≠ l) (hz : ps.length ≤ 1000)
    (h : ∀ ps' h' nn', ps'.map (·.1) = ps.map (·.1) ++ [y] → Fr h₀ L h' m → News h₀ L h' ((l, PySem.W.listOf (strValues ps').toArray nn') :: rest) → Q .none { s with heap := h' }) :
    wpAny (model prog w) A (call (.builtin "list.append") [.ref l, .str y u]) Q E s :=
  append_any F N hl hr hne (by rw [strV_size]; exact hz) fun h' F' N' => h (ps ++ [(y, u)]) h' (nn + 1) (by simp) F' (by rw [← strV_push]; exact N')
end
theorem ins {α : Type} {p a b : α} {rest : List α} (h : p ∈ a :: rest) : p ∈ a :: b :: rest := by
  rcases List.mem_cons.mp h with e | h
  · rw [e]; exact List.Mem.head _
  · exact List.Mem.tail _ (List.Mem.tail _ h)
theorem swap2 {h₀ h : Heap} {L : Addr} {a b : Addr × Obj} {rest : List (Addr × Obj)} (N : News h₀ L h (a :: b :: rest)) : News h₀ L h (b :: a :: rest) := fun p hp => N p (by
  rcases List.mem_cons.mp hp with e | hp
  · rw [e]; exact List.Mem.tail _ (List.Mem.head _)
  · rcases List.mem_cons.mp hp with e | hp
    · rw [e]; exact List.Mem.head _
    · exact List.Mem.tail _ (List.Mem.tail _ hp))
theorem RaisedSN.sub {base G : Heap} {l : List Env} {e : Addr} {cls : Value} {news news' : List (Addr × Obj)} {h : Heap} (R : RaisedSN base G l e cls news h) (hs : ∀ p ∈ news', p ∈ news) : RaisedSN base G l e cls news' h := by
  obtain ⟨B, a0, hB, hG, hl, hfl⟩ := R
  exact ⟨B, a0, hB, hG, fun q hq => hl q (hs q hq), hfl⟩
theorem ps_len {ps : List (Str × Tok)} {l : List At} {i : Nat} (h : ps.map (·.1) = piecesOf (l.take i)) (hl : l.length ≤ 100) : ps.length ≤ 1000 := by
  have h1 := congrArg List.length h
  have h2 := pieces_count (l.take i)
  rw [List.length_map] at h1
  have h3 := List.length_take_le i l
  have h4 : (l.take i).length ≤ l.length := by rw [List.length_take]; omega
  omega
section
variable {prog : Program} {w : World} {A : Around} {E : Value → Shared → Prop} {s : Shared}
theorem addT {x y : Str} {t u : Tok} {Q : Value → Shared → Prop} (h0 : 0 < s.toks) (hsz : x.length + y.length ≤ sizeLine)
    (h : ∀ t' k, 0 < k → (x.length + y.length ≤ (x ++ y).length ∧ (x ++ y).length ≤ x.length + y.length) → Q (.str (x ++ y) t') { s with toks := k }) : wpAny (model prog w) A (binaryOp .Add (.str x t) (.str y u)) Q E s :=
  wpAny_with_toks (n := 1) h0 (SB.add (fun t' k hk => h t' k hk ⟨Nat.le_of_eq (Str.length_append x y).symm, Nat.le_of_eq (Str.length_append x y)⟩) hsz)
end
end Mine
end
section
local macro_rules | `(tactic| walk_at "own pad 0") => `(tactic| skip)
theorem Mine.start23 : True := by w_top off; trivial
open PySem PySem.W PyProof.Rows PySem.Calls PySem.Spec
set_option maxRecDepth 100000
set_option maxHeartbeats 8000000
set_option linter.unusedVariables false
local macro_rules | `(tactic| k_room) => `(tactic| ktr_room)
local macro_rules | `(tactic| k_all) => `(tactic| first | assumption | exact Mine.neAll (by assumption))
local macro_rules | `(tactic| k_lt $h:ident) => `(tactic| (replace $h := allLt_of $h; simp only [AllLt, and_true] at $h:ident; (repeat (have lx := And.left $h; replace $h := And.right $h))))
local macro_rules | `(tactic| ktr_enter) => `(tactic| (refine' code_def ?k1 ?k2 ?k3 ?k4 ?k5 ?kA ?kF ?kK ?k6 ?k7 ?k8 ?k9 ?kB ?_ ?c2 ?c3 ?c4 ?c5; (case kA => exact rfl); (case kF => exact rfl); (case kK => first | exact rfl | assumption); (case k1 => k_asm); (case k2 => k_asm); (case k3 => k_asm); (case k4 => k_asm); (case k5 => k_asm); (case k6 => k_is); (case k7 => k_is); (case k8 => ktr_room); (case k9 => first | exact BindsTo.of_eq rfl | exact binds_K (by k_in) rfl (by k_is) rfl rfl rfl); (case c5 => decide); (case kB => exact locs rfl); (case c2 => exact rfl); (case c3 => exact rfl); (case c4 => exact rfl); k_whole; intro g' L' h' FG' F' N' B' X' T'; (try dsimp only); (try k_lift B'); (try k_fold)))
local macro_rules | `(tactic| walk_at "call ref") => `(tactic| (k_here; k_dflt (
  (refine' call_cls ?k1 ?k2 ?k3 ?k4 ?k5 ?k6 ?_; (case k1 => k_asm); (case k2 => k_asm); (case k3 => k_asm); (case k4 => k_is); (case k5 => k_is); (case k6 => k_is); intro x' d' h' F' N' l1 l2; (try k_lt l1); (try k_lt2 l2); 
   (refine' ks_code_super ?k1 ?k2 ?k3 ?k4 ?k5 ?kA ?kF ?kK ?k6 ?k7 ?k8 ?k9 ?kB ?_ ?c1 ?c2 ?c3 ?c4; (case kA => exact rfl); (case kF => exact rfl); (case kK => first | exact rfl | assumption); (case k1 => k_asm); (case k2 => k_asm); (case k3 => k_asm); (case k4 => k_asm); (case k5 => k_asm); (case k6 => k_is); (case k7 => k_is); (case k8 => ktr_room); (case k9 => first | exact BindsTo.of_eq rfl | exact binds_K (by k_in) rfl (by k_is) rfl rfl rfl); (case kB => exact locs rfl); (case c1 => decide); (case c2 => exact rfl); (case c3 => exact rfl); (case c4 => exact rfl); intro g' L' h' FG' F' N' B' X' T' l1; (try k_lt l1); (try dsimp only); (try k_lift B'))))))
local macro_rules | `(tactic| walk_at "eval Name") => `(tactic| (k_here; k_dflt (refine' nameX_B ?F ?X ?T ?e ?v ?n ?_ ?a ?b; (case F => k_asm); (case X => k_asm); (case T => k_asm); (case a => rfl); (case b => rfl); (case e => k_is); (case v => first | boot_by_name | kernel_rfl); (case n => decide); k_whole)))
local macro_rules | `(tactic| walk_at "call type:super") => `(tactic| (k_here; k_dflt (refine' Mine.super2 ?F ?X ?N ?I ?c ?d ?_; (case F => k_asm); (case X => k_asm); (case N => k_asm); (case I => k_inst); (case c => k_is); (case d => k_is);  intro so' h' F' N' l1; (try k_lt l1))))

local macro_rules | `(tactic| walk_at "ite") => `(tactic| (first | refine ite_neg (by decide) ?_ | refine ite_pos (by decide) ?_ | refine ite_neg (by decide +kernel) ?_ | refine ite_pos (by decide +kernel) ?_))
local macro_rules | `(tactic| walk_at "forall") => `(tactic| (k_here; intro htk; (try dsimp only at htk); (try dsimp only)))
local macro_rules | `(tactic| walk_at "execs cons") => `(tactic| (k_here; k_dflt (refine' Mine.execs_cons_T ?h ?_; (case h => first | assumption | ((try dsimp only); omega)))))
local macro_rules | `(tactic| walk_at "execs cons") => `(tactic| (k_here; (fail_if_success (refine' Mine.gen_toks (by with_reducible assumption) ?_)); (try dsimp only); refine' Mine.gen_toks (by omega) ?_; intro tk htk))
local macro_rules | `(tactic| walk_at "execs nil") => `(tactic| (k_here; (fail_if_success (refine' Mine.gen_toks (by with_reducible assumption) ?_)); (try dsimp only); refine' Mine.gen_toks (by omega) ?_; intro tk htk))
local macro_rules | `(tactic| walk_at "call builtin:str.replace") => `(tactic| (k_here; k_dflt ((try dsimp only); refine' Mine.replaceT ?a ?b ?c ?d ?e ?f ?g ?_; (case a => (try dsimp only); omega); (case b => (try dsimp only); omega); (case c => (try dsimp only); omega); (case d => (try dsimp only); omega); (case e => decide); (case f => omega); (case g => decide); intro t' k' hk' hl')))
local macro_rules | `(tactic| walk_at "binaryOp Add str str") => `(tactic| (k_here; (with_reducible show wpAny _ _ (binaryOp Operator.Add (Value.str _ _) (Value.str _ _)) _ _ _); k_dflt (refine' Mine.addT ?h ?hsz ?_; (case h => first | assumption | ((try dsimp only); omega)); (case hsz => size_fits)); intro t' k' hk' hl'))
local macro_rules | `(tactic| walk_at "own k_con") => `(tactic| (first | k_asm | k_in | assumption | exact rfl | ((try dsimp only); omega)))
local macro_rules | `(tactic| walk_at "call ref") => `(tactic| (k_here; (with_reducible show wpAny _ _ (call (Value.ref 257) _ _) _ _ _); k_dflt (refine' Mine.unescape_ok ?B ?F ?X ?N ?T ?hk ?hdp ?hu ?htk ?hx ?hs ?_; (case B => k_asm); (case F => k_asm); (case X => k_in); (case N => k_asm); (case T => k_asm); (case hk => exact rfl); (case hdp => (try dsimp only); omega); (case hu => (try dsimp only); omega); (case htk => (try dsimp only); omega); (case hx => assumption); (case hs => assumption); intro t' h' tk' htk' F' N')))
local macro_rules | `(tactic| walk_at "call ref") => `(tactic| (k_here; (with_reducible show wpAny _ _ (call (Value.ref 238) _ _) _ _ _); k_dflt (refine' Mine.escape_ok ?B ?F ?X ?N ?T ?hk ?hdp ?hu ?htk ?hx ?_; (case B => k_asm); (case F => k_asm); (case X => k_in); (case N => k_asm); (case T => k_asm); (case hk => exact rfl); (case hdp => (try dsimp only); omega); (case hu => (try dsimp only); omega); (case htk => (try dsimp only); omega); (case hx => assumption); intro t' h' tk' htk' F' N')))

namespace Mine
theorem iteT {c : Bool} {a b : Prop} (h : c = true) (x : a) : if c = true then a else b := by rw [if_pos h]; exact x
theorem iteF {c : Bool} {a b : Prop} (h : c = false) (x : b) : if c = true then a else b := by rw [if_neg (by rw [h]; decide)]; exact x
end Mine
local macro_rules | `(tactic| walk_at "ite") => `(tactic| first | refine Mine.iteT (by kernel_rfl!) ?_ | refine Mine.iteF (by kernel_rfl!) ?_)
namespace Mine
noncomputable abbrev tok2 (P : Params) (t1 t2 t3 t4 : Tok) (ty x : Str) : Obj := dictOf [⟨PyData.keyHash P (Str.ofString "type"), .str (Str.ofString "type") t1, .str ty t2⟩, ⟨PyData.keyHash P (Str.ofString "raw"), .str (Str.ofString "raw") t3, .str x t4⟩] 2
section
variable {w : World} {p : Program} {loose : List Str} {mean : ExcName → Option Value} {mg mb : Str → Option Value}
  {dp un : Nat} {gd : Option (List Code)} {cn : Str} {cs : Scope} {a : Addr} {ccd : Value} {cl : List (Str × Addr)} {outer : List Env} {A₀ : Around} {base h₀ : Heap} {L : Addr} {m : Str → Option Value} {s : Shared} {Q E : Value → Shared → Prop} {news : List (Addr × Obj)}


theorem tok_error {o d k st : Addr} {ob : Obj} {dv : Value} {t2 t4 t5 t6 t7 : Tok} {md : Addr} {x : Str} (B : Below A₀ base outer h₀) (F : Fr h₀ L s.heap m) (X : (hd.heap_39 w.params).In h₀) (N : News h₀ L s.heap ((k, ob) :: (o, instObj 487 d) :: (d, rdict w.params t5 t6 t7 md dv) :: news)) (T : Top p loose mean mg mb h₀) (hk : cs.kind = .function)
  (hdp : dp + 60 < recursionLimit) (hu : un + 150 < cLine) (htk : 0 < s.toks) (hx : x.length ≤ 2000) (lo : (k == sysModules) = false)
  (hd0 : ob.IsDictOf (strKind PySem.Challenge.rw_bq5017_02.row.prog w) [(Str.ofString "type", .str (Str.ofString "block_error") t2), (Str.ofString "raw", .str x t4)])
  (hf0 : PyProof.V.FlatPairs PyData.str [(Str.ofString "type", .str (Str.ofString "block_error") t2), (Str.ofString "raw", .str x t4)] [(.str (Str.ofString "type"), .str (Str.ofString "block_error")), (.str (Str.ofString "raw"), .str x)])
  (ret : ∀ t' h' tk', 0 < tk' → Fr h₀ L h' m → News h₀ L h' ((k, ob) :: (o, instObj 487 d) :: (d, rdict w.params t5 t6 t7 md dv) :: news) → Q (.str (Str.ofString "<div class=\"error\"><pre>" ++ escF x ++ Str.ofString "</pre></div>\n") t') { s with heap := h', toks := tk' }) :
  wpAny (model PySem.Challenge.rw_bq5017_02.row.prog w) (ktrTop dp un gd cn cs L a ccd cl outer) (call (.ref 341) [.ref o, .ref k, .ref st] []) Q E s := by
  revert X
  k_fill
  intro X
  refine wpAny_call ?_
  k_dflt ktr_enter
  k_steps
  all_goals (refine ret _ _ _ ?_ (by assumption) (subL (by assumption) (by intro p hp; repeat (first | assumption | refine List.Mem.tail _ ?_))))
  all_goals ((try dsimp only); omega)
end
end Mine
end
section
local macro_rules | `(tactic| walk_at "own pad 0") => `(tactic| skip)
local macro_rules | `(tactic| walk_at "own pad 1") => `(tactic| skip)
theorem Mine.start24 : True := by w_top off; trivial
open PySem PySem.W PyProof.Rows PySem.Calls PySem.Spec
set_option maxRecDepth 100000
set_option maxHeartbeats 8000000
set_option linter.unusedVariables false
local macro_rules | `(tactic| k_room) => `(tactic| ktr_room)
local macro_rules | `(tactic| k_all) => `(tactic| first | assumption | exact Mine.neAll (by assumption))
local macro_rules | `(tactic| k_lt $h:ident) => `(tactic| (replace $h := allLt_of $h; simp only [AllLt, and_true] at $h:ident; (repeat (have lx := And.left $h; replace $h := And.right $h))))
local macro_rules | `(tactic| ktr_enter) => `(tactic| (refine' code_def ?k1 ?k2 ?k3 ?k4 ?k5 ?kA ?kF ?kK ?k6 ?k7 ?k8 ?k9 ?kB ?_ ?c2 ?c3 ?c4 ?c5; (case kA => exact rfl); (case kF => exact rfl); (case kK => first | exact rfl | assumption); (case k1 => k_asm); (case k2 => k_asm); (case k3 => k_asm); (case k4 => k_asm); (case k5 => k_asm); (case k6 => k_is); (case k7 => k_is); (case k8 => ktr_room); (case k9 => first | exact BindsTo.of_eq rfl | exact binds_K (by k_in) rfl (by k_is) rfl rfl rfl); (case c5 => decide); (case kB => exact locs rfl); (case c2 => exact rfl); (case c3 => exact rfl); (case c4 => exact rfl); k_whole; intro g' L' h' FG' F' N' B' X' T'; (try dsimp only); (try k_lift B'); (try k_fold)))
local macro_rules | `(tactic| walk_at "call ref") => `(tactic| (k_here; k_dflt (
  (refine' call_cls ?k1 ?k2 ?k3 ?k4 ?k5 ?k6 ?_; (case k1 => k_asm); (case k2 => k_asm); (case k3 => k_asm); (case k4 => k_is); (case k5 => k_is); (case k6 => k_is); intro x' d' h' F' N' l1 l2; (try k_lt l1); (try k_lt2 l2); 
   (refine' ks_code_super ?k1 ?k2 ?k3 ?k4 ?k5 ?kA ?kF ?kK ?k6 ?k7 ?k8 ?k9 ?kB ?_ ?c1 ?c2 ?c3 ?c4; (case kA => exact rfl); (case kF => exact rfl); (case kK => first | exact rfl | assumption); (case k1 => k_asm); (case k2 => k_asm); (case k3 => k_asm); (case k4 => k_asm); (case k5 => k_asm); (case k6 => k_is); (case k7 => k_is); (case k8 => ktr_room); (case k9 => first | exact BindsTo.of_eq rfl | exact binds_K (by k_in) rfl (by k_is) rfl rfl rfl); (case kB => exact locs rfl); (case c1 => decide); (case c2 => exact rfl); (case c3 => exact rfl); (case c4 => exact rfl); intro g' L' h' FG' F' N' B' X' T' l1; (try k_lt l1); (try dsimp only); (try k_lift B'))))))
local macro_rules | `(tactic| walk_at "eval Name") => `(tactic| (k_here; k_dflt (refine' nameX_B ?F ?X ?T ?e ?v ?n ?_ ?a ?b; (case F => k_asm); (case X => k_asm); (case T => k_asm); (case a => rfl); (case b => rfl); (case e => k_is); (case v => first | boot_by_name | kernel_rfl); (case n => decide); k_whole)))
local macro_rules | `(tactic| walk_at "call type:super") => `(tactic| (k_here; k_dflt (refine' Mine.super2 ?F ?X ?N ?I ?c ?d ?_; (case F => k_asm); (case X => k_asm); (case N => k_asm); (case I => k_inst); (case c => k_is); (case d => k_is);  intro so' h' F' N' l1; (try k_lt l1))))

local macro_rules | `(tactic| walk_at "ite") => `(tactic| (first | refine ite_neg (by decide) ?_ | refine ite_pos (by decide) ?_ | refine ite_neg (by decide +kernel) ?_ | refine ite_pos (by decide +kernel) ?_))
local macro_rules | `(tactic| walk_at "forall") => `(tactic| (k_here; intro htk; (try dsimp only at htk); (try dsimp only)))
local macro_rules | `(tactic| walk_at "execs cons") => `(tactic| (k_here; k_dflt (refine' Mine.execs_cons_T ?h ?_; (case h => first | assumption | ((try dsimp only); omega)))))
local macro_rules | `(tactic| walk_at "execs cons") => `(tactic| (k_here; (fail_if_success (refine' Mine.gen_toks (by with_reducible assumption) ?_)); (try dsimp only); refine' Mine.gen_toks (by omega) ?_; intro tk htk))
local macro_rules | `(tactic| walk_at "execs nil") => `(tactic| (k_here; (fail_if_success (refine' Mine.gen_toks (by with_reducible assumption) ?_)); (try dsimp only); refine' Mine.gen_toks (by omega) ?_; intro tk htk))
local macro_rules | `(tactic| walk_at "call builtin:str.replace") => `(tactic| (k_here; k_dflt ((try dsimp only); refine' Mine.replaceT ?a ?b ?c ?d ?e ?f ?g ?_; (case a => (try dsimp only); omega); (case b => (try dsimp only); omega); (case c => (try dsimp only); omega); (case d => (try dsimp only); omega); (case e => decide); (case f => omega); (case g => decide); intro t' k' hk' hl')))
local macro_rules | `(tactic| walk_at "binaryOp Add str str") => `(tactic| (k_here; (with_reducible show wpAny _ _ (binaryOp Operator.Add (Value.str _ _) (Value.str _ _)) _ _ _); k_dflt (refine' Mine.addT ?h ?hsz ?_; (case h => first | assumption | ((try dsimp only); omega)); (case hsz => size_fits)); intro t' k' hk' hl'))
local macro_rules | `(tactic| walk_at "own k_con") => `(tactic| (first | k_asm | k_in | assumption | exact rfl | ((try dsimp only); omega)))
local macro_rules | `(tactic| walk_at "call ref") => `(tactic| (k_here; (with_reducible show wpAny _ _ (call (Value.ref 257) _ _) _ _ _); k_dflt (refine' Mine.unescape_ok ?B ?F ?X ?N ?T ?hk ?hdp ?hu ?htk ?hx ?hs ?_; (case B => k_asm); (case F => k_asm); (case X => k_in); (case N => k_asm); (case T => k_asm); (case hk => exact rfl); (case hdp => (try dsimp only); omega); (case hu => (try dsimp only); omega); (case htk => (try dsimp only); omega); (case hx => assumption); (case hs => assumption); intro t' h' tk' htk' F' N')))
local macro_rules | `(tactic| walk_at "call ref") => `(tactic| (k_here; (with_reducible show wpAny _ _ (call (Value.ref 238) _ _) _ _ _); k_dflt (refine' Mine.escape_ok ?B ?F ?X ?N ?T ?hk ?hdp ?hu ?htk ?hx ?_; (case B => k_asm); (case F => k_asm); (case X => k_in); (case N => k_asm); (case T => k_asm); (case hk => exact rfl); (case hdp => (try dsimp only); omega); (case hu => (try dsimp only); omega); (case htk => (try dsimp only); omega); (case hx => assumption); intro t' h' tk' htk' F' N')))

local macro_rules | `(tactic| walk_at "ite") => `(tactic| first | refine Mine.iteT (by kernel_rfl!) ?_ | refine Mine.iteF (by kernel_rfl!) ?_)
namespace Mine
section
variable {w : World} {p : Program} {loose : List Str} {mean : ExcName → Option Value} {mg mb : Str → Option Value}
  {dp un : Nat} {gd : Option (List Code)} {cn : Str} {cs : Scope} {a : Addr} {ccd : Value} {cl : List (Str × Addr)} {outer : List Env} {A₀ : Around} {base h₀ : Heap} {L : Addr} {m : Str → Option Value} {s : Shared} {Q E : Value → Shared → Prop} {news : List (Addr × Obj)}


theorem tok_item {o d k st : Addr} {ob : Obj} {dv : Value} {t2 t4 t5 t6 t7 : Tok} {md : Addr} {x : Str} (B : Below A₀ base outer h₀) (F : Fr h₀ L s.heap m) (X : (hd.heap_39 w.params).In h₀) (N : News h₀ L s.heap ((k, ob) :: (o, instObj 487 d) :: (d, rdict w.params t5 t6 t7 md dv) :: news)) (T : Top p loose mean mg mb h₀) (hk : cs.kind = .function)
  (hdp : dp + 60 < recursionLimit) (hu : un + 150 < cLine) (htk : 0 < s.toks) (hx : x.length ≤ 2000) (lo : (k == sysModules) = false)
  (hd0 : ob.IsDictOf (strKind PySem.Challenge.rw_bq5017_02.row.prog w) [(Str.ofString "type", .str (Str.ofString "list_item") t2), (Str.ofString "raw", .str x t4)])
  (hf0 : PyProof.V.FlatPairs PyData.str [(Str.ofString "type", .str (Str.ofString "list_item") t2), (Str.ofString "raw", .str x t4)] [(.str (Str.ofString "type"), .str (Str.ofString "list_item")), (.str (Str.ofString "raw"), .str x)])
  (ret : ∀ t' h' tk', 0 < tk' → Fr h₀ L h' m → News h₀ L h' ((k, ob) :: (o, instObj 487 d) :: (d, rdict w.params t5 t6 t7 md dv) :: news) → Q (.str (Str.ofString "<li>" ++ x ++ Str.ofString "</li>\n") t') { s with heap := h', toks := tk' }) :
  wpAny (model PySem.Challenge.rw_bq5017_02.row.prog w) (ktrTop dp un gd cn cs L a ccd cl outer) (call (.ref 341) [.ref o, .ref k, .ref st] []) Q E s := by
  revert X
  k_fill
  intro X
  refine wpAny_call ?_
  k_dflt ktr_enter
  k_steps
  all_goals (refine ret _ _ _ ?_ (by assumption) (subL (by assumption) (by intro p hp; repeat (first | assumption | refine List.Mem.tail _ ?_))))
  all_goals ((try dsimp only); omega)
end
end Mine
end
section
theorem Mine.start25 : True := by w_top off; trivial
open PySem PySem.W PyProof.Rows PySem.Calls PySem.Spec
set_option maxRecDepth 100000
set_option maxHeartbeats 8000000
set_option linter.unusedVariables false
local macro_rules | `(tactic| k_room) => `(tactic| ktr_room)
local macro_rules | `(tactic| k_all) => `(tactic| first | assumption | exact Mine.neAll (by assumption))
local macro_rules | `(tactic| k_lt $h:ident) => `(tactic| (replace $h := allLt_of $h; simp only [AllLt, and_true] at $h:ident; (repeat (have lx := And.left $h; replace $h := And.right $h))))
local macro_rules | `(tactic| ktr_enter) => `(tactic| (refine' code_def ?k1 ?k2 ?k3 ?k4 ?k5 ?kA ?kF ?kK ?k6 ?k7 ?k8 ?k9 ?kB ?_ ?c2 ?c3 ?c4 ?c5; (case kA => exact rfl); (case kF => exact rfl); (case kK => first | exact rfl | assumption); (case k1 => k_asm); (case k2 => k_asm); (case k3 => k_asm); (case k4 => k_asm); (case k5 => k_asm); (case k6 => k_is); (case k7 => k_is); (case k8 => ktr_room); (case k9 => first | exact BindsTo.of_eq rfl | exact binds_K (by k_in) rfl (by k_is) rfl rfl rfl); (case c5 => decide); (case kB => exact locs rfl); (case c2 => exact rfl); (case c3 => exact rfl); (case c4 => exact rfl); k_whole; intro g' L' h' FG' F' N' B' X' T'; (try dsimp only); (try k_lift B'); (try k_fold)))
local macro_rules | `(tactic| walk_at "call ref") => `(tactic| (k_here; k_dflt (
  (refine' call_cls ?k1 ?k2 ?k3 ?k4 ?k5 ?k6 ?_; (case k1 => k_asm); (case k2 => k_asm); (case k3 => k_asm); (case k4 => k_is); (case k5 => k_is); (case k6 => k_is); intro x' d' h' F' N' l1 l2; (try k_lt l1); (try k_lt2 l2); 
   (refine' ks_code_super ?k1 ?k2 ?k3 ?k4 ?k5 ?kA ?kF ?kK ?k6 ?k7 ?k8 ?k9 ?kB ?_ ?c1 ?c2 ?c3 ?c4; (case kA => exact rfl); (case kF => exact rfl); (case kK => first | exact rfl | assumption); (case k1 => k_asm); (case k2 => k_asm); (case k3 => k_asm); (case k4 => k_asm); (case k5 => k_asm); (case k6 => k_is); (case k7 => k_is); (case k8 => ktr_room); (case k9 => first | exact BindsTo.of_eq rfl | exact binds_K (by k_in) rfl (by k_is) rfl rfl rfl); (case kB => exact locs rfl); (case c1 => decide); (case c2 => exact rfl); (case c3 => exact rfl); (case c4 => exact rfl); intro g' L' h' FG' F' N' B' X' T' l1; (try k_lt l1); (try dsimp only); (try k_lift B'))))))
local macro_rules | `(tactic| walk_at "eval Name") => `(tactic| (k_here; k_dflt (refine' nameX_B ?F ?X ?T ?e ?v ?n ?_ ?a ?b; (case F => k_asm); (case X => k_asm); (case T => k_asm); (case a => rfl); (case b => rfl); (case e => k_is); (case v => first | boot_by_name | kernel_rfl); (case n => decide); k_whole)))
local macro_rules | `(tactic| walk_at "call type:super") => `(tactic| (k_here; k_dflt (refine' Mine.super2 ?F ?X ?N ?I ?c ?d ?_; (case F => k_asm); (case X => k_asm); (case N => k_asm); (case I => k_inst); (case c => k_is); (case d => k_is);  intro so' h' F' N' l1; (try k_lt l1))))

local macro_rules | `(tactic| walk_at "ite") => `(tactic| (first | refine ite_neg (by decide) ?_ | refine ite_pos (by decide) ?_ | refine ite_neg (by decide +kernel) ?_ | refine ite_pos (by decide +kernel) ?_))
local macro_rules | `(tactic| walk_at "forall") => `(tactic| (k_here; intro htk; (try dsimp only at htk); (try dsimp only)))
local macro_rules | `(tactic| walk_at "execs cons") => `(tactic| (k_here; k_dflt (refine' Mine.execs_cons_T ?h ?_; (case h => first | assumption | ((try dsimp only); omega)))))
local macro_rules | `(tactic| walk_at "execs cons") => `(tactic| (k_here; (fail_if_success (refine' Mine.gen_toks (by with_reducible assumption) ?_)); (try dsimp only); refine' Mine.gen_toks (by omega) ?_; intro tk htk))
local macro_rules | `(tactic| walk_at "execs nil") => `(tactic| (k_here; (fail_if_success (refine' Mine.gen_toks (by with_reducible assumption) ?_)); (try dsimp only); refine' Mine.gen_toks (by omega) ?_; intro tk htk))
local macro_rules | `(tactic| walk_at "call builtin:str.replace") => `(tactic| (k_here; k_dflt ((try dsimp only); refine' Mine.replaceT ?a ?b ?c ?d ?e ?f ?g ?_; (case a => (try dsimp only); omega); (case b => (try dsimp only); omega); (case c => (try dsimp only); omega); (case d => (try dsimp only); omega); (case e => decide); (case f => omega); (case g => decide); intro t' k' hk' hl')))
local macro_rules | `(tactic| walk_at "binaryOp Add str str") => `(tactic| (k_here; (with_reducible show wpAny _ _ (binaryOp Operator.Add (Value.str _ _) (Value.str _ _)) _ _ _); k_dflt (refine' Mine.addT ?h ?hsz ?_; (case h => first | assumption | ((try dsimp only); omega)); (case hsz => size_fits)); intro t' k' hk' hl'))
local macro_rules | `(tactic| walk_at "own k_con") => `(tactic| (first | k_asm | k_in | assumption | exact rfl | ((try dsimp only); omega)))
local macro_rules | `(tactic| walk_at "call ref") => `(tactic| (k_here; (with_reducible show wpAny _ _ (call (Value.ref 257) _ _) _ _ _); k_dflt (refine' Mine.unescape_ok ?B ?F ?X ?N ?T ?hk ?hdp ?hu ?htk ?hx ?hs ?_; (case B => k_asm); (case F => k_asm); (case X => k_in); (case N => k_asm); (case T => k_asm); (case hk => exact rfl); (case hdp => (try dsimp only); omega); (case hu => (try dsimp only); omega); (case htk => (try dsimp only); omega); (case hx => assumption); (case hs => assumption); intro t' h' tk' htk' F' N')))
local macro_rules | `(tactic| walk_at "call ref") => `(tactic| (k_here; (with_reducible show wpAny _ _ (call (Value.ref 238) _ _) _ _ _); k_dflt (refine' Mine.escape_ok ?B ?F ?X ?N ?T ?hk ?hdp ?hu ?htk ?hx ?_; (case B => k_asm); (case F => k_asm); (case X => k_in); (case N => k_asm); (case T => k_asm); (case hk => exact rfl); (case hdp => (try dsimp only); omega); (case hu => (try dsimp only); omega); (case htk => (try dsimp only); omega); (case hx => assumption); intro t' h' tk' htk' F' N')))

local macro_rules | `(tactic| walk_at "ite") => `(tactic| first | refine Mine.iteT (by kernel_rfl!) ?_ | refine Mine.iteF (by kernel_rfl!) ?_)
namespace Mine
section
variable {w : World} {p : Program} {loose : List Str} {mean : ExcName → Option Value} {mg mb : Str → Option Value}
  {dp un : Nat} {gd : Option (List Code)} {cn : Str} {cs : Scope} {a : Addr} {ccd : Value} {cl : List (Str × Addr)} {outer : List Env} {A₀ : Around} {base h₀ : Heap} {L : Addr} {m : Str → Option Value} {s : Shared} {Q E : Value → Shared → Prop} {news : List (Addr × Obj)}


theorem tok_html0 {o d k st : Addr} {ob : Obj} {t2 t4 t5 t6 t7 : Tok} {md : Addr} {x : Str} (B : Below A₀ base outer h₀) (F : Fr h₀ L s.heap m) (X : (hd.heap_39 w.params).In h₀) (N : News h₀ L s.heap ((k, ob) :: (o, instObj 487 d) :: (d, rdict w.params t5 t6 t7 md (.bool false)) :: news)) (T : Top p loose mean mg mb h₀) (hk : cs.kind = .function)
  (hdp : dp + 60 < recursionLimit) (hu : un + 150 < cLine) (htk : 0 < s.toks) (hx : x.length ≤ 2000) (lo : (k == sysModules) = false)
  (hd0 : ob.IsDictOf (strKind PySem.Challenge.rw_bq5017_02.row.prog w) [(Str.ofString "type", .str (Str.ofString "block_html") t2), (Str.ofString "raw", .str x t4)])
  (hf0 : PyProof.V.FlatPairs PyData.str [(Str.ofString "type", .str (Str.ofString "block_html") t2), (Str.ofString "raw", .str x t4)] [(.str (Str.ofString "type"), .str (Str.ofString "block_html")), (.str (Str.ofString "raw"), .str x)])
  (ret : ∀ t' h' tk', 0 < tk' → Fr h₀ L h' m → News h₀ L h' ((k, ob) :: (o, instObj 487 d) :: (d, rdict w.params t5 t6 t7 md (.bool false)) :: news) → Q (.str (x ++ Str.ofString "\n") t') { s with heap := h', toks := tk' }) :
  wpAny (model PySem.Challenge.rw_bq5017_02.row.prog w) (ktrTop dp un gd cn cs L a ccd cl outer) (call (.ref 341) [.ref o, .ref k, .ref st] []) Q E s := by
  revert X
  k_fill
  intro X
  refine wpAny_call ?_
  k_dflt ktr_enter
  k_steps
  all_goals (refine ret _ _ _ ?_ (by assumption) (subL (by assumption) (by intro p hp; repeat (first | assumption | refine List.Mem.tail _ ?_))))
  all_goals ((try dsimp only); omega)
end
end Mine
end
section
local macro_rules | `(tactic| walk_at "own pad 0") => `(tactic| skip)
theorem Mine.start26 : True := by w_top off; trivial
open PySem PySem.W PyProof.Rows PySem.Calls PySem.Spec
set_option maxRecDepth 100000
set_option maxHeartbeats 8000000
set_option linter.unusedVariables false
local macro_rules | `(tactic| k_room) => `(tactic| ktr_room)
local macro_rules | `(tactic| k_all) => `(tactic| first | assumption | exact Mine.neAll (by assumption))
local macro_rules | `(tactic| k_lt $h:ident) => `(tactic| (replace $h := allLt_of $h; simp only [AllLt, and_true] at $h:ident; (repeat (have lx := And.left $h; replace $h := And.right $h))))
local macro_rules | `(tactic| ktr_enter) => `(tactic| (refine' code_def ?k1 ?k2 ?k3 ?k4 ?k5 ?kA ?kF ?kK ?k6 ?k7 ?k8 ?k9 ?kB ?_ ?c2 ?c3 ?c4 ?c5; (case kA => exact rfl); (case kF => exact rfl); (case kK => first | exact rfl | assumption); (case k1 => k_asm); (case k2 => k_asm); (case k3 => k_asm); (case k4 => k_asm); (case k5 => k_asm); (case k6 => k_is); (case k7 => k_is); (case k8 => ktr_room); (case k9 => first | exact BindsTo.of_eq rfl | exact binds_K (by k_in) rfl (by k_is) rfl rfl rfl); (case c5 => decide); (case kB => exact locs rfl); (case c2 => exact rfl); (case c3 => exact rfl); (case c4 => exact rfl); k_whole; intro g' L' h' FG' F' N' B' X' T'; (try dsimp only); (try k_lift B'); (try k_fold)))
local macro_rules | `(tactic| walk_at "call ref") => `(tactic| (k_here; k_dflt (
  (refine' call_cls ?k1 ?k2 ?k3 ?k4 ?k5 ?k6 ?_; (case k1 => k_asm); (case k2 => k_asm); (case k3 => k_asm); (case k4 => k_is); (case k5 => k_is); (case k6 => k_is); intro x' d' h' F' N' l1 l2; (try k_lt l1); (try k_lt2 l2); 
   (refine' ks_code_super ?k1 ?k2 ?k3 ?k4 ?k5 ?kA ?kF ?kK ?k6 ?k7 ?k8 ?k9 ?kB ?_ ?c1 ?c2 ?c3 ?c4; (case kA => exact rfl); (case kF => exact rfl); (case kK => first | exact rfl | assumption); (case k1 => k_asm); (case k2 => k_asm); (case k3 => k_asm); (case k4 => k_asm); (case k5 => k_asm); (case k6 => k_is); (case k7 => k_is); (case k8 => ktr_room); (case k9 => first | exact BindsTo.of_eq rfl | exact binds_K (by k_in) rfl (by k_is) rfl rfl rfl); (case kB => exact locs rfl); (case c1 => decide); (case c2 => exact rfl); (case c3 => exact rfl); (case c4 => exact rfl); intro g' L' h' FG' F' N' B' X' T' l1; (try k_lt l1); (try dsimp only); (try k_lift B'))))))
local macro_rules | `(tactic| walk_at "eval Name") => `(tactic| (k_here; k_dflt (refine' nameX_B ?F ?X ?T ?e ?v ?n ?_ ?a ?b; (case F => k_asm); (case X => k_asm); (case T => k_asm); (case a => rfl); (case b => rfl); (case e => k_is); (case v => first | boot_by_name | kernel_rfl); (case n => decide); k_whole)))
local macro_rules | `(tactic| walk_at "call type:super") => `(tactic| (k_here; k_dflt (refine' Mine.super2 ?F ?X ?N ?I ?c ?d ?_; (case F => k_asm); (case X => k_asm); (case N => k_asm); (case I => k_inst); (case c => k_is); (case d => k_is);  intro so' h' F' N' l1; (try k_lt l1))))

local macro_rules | `(tactic| walk_at "ite") => `(tactic| (first | refine ite_neg (by decide) ?_ | refine ite_pos (by decide) ?_ | refine ite_neg (by decide +kernel) ?_ | refine ite_pos (by decide +kernel) ?_))
local macro_rules | `(tactic| walk_at "forall") => `(tactic| (k_here; intro htk; (try dsimp only at htk); (try dsimp only)))
local macro_rules | `(tactic| walk_at "execs cons") => `(tactic| (k_here; k_dflt (refine' Mine.execs_cons_T ?h ?_; (case h => first | assumption | ((try dsimp only); omega)))))
local macro_rules | `(tactic| walk_at "execs cons") => `(tactic| (k_here; (fail_if_success (refine' Mine.gen_toks (by with_reducible assumption) ?_)); (try dsimp only); refine' Mine.gen_toks (by omega) ?_; intro tk htk))
local macro_rules | `(tactic| walk_at "execs nil") => `(tactic| (k_here; (fail_if_success (refine' Mine.gen_toks (by with_reducible assumption) ?_)); (try dsimp only); refine' Mine.gen_toks (by omega) ?_; intro tk htk))
local macro_rules | `(tactic| walk_at "call builtin:str.replace") => `(tactic| (k_here; k_dflt ((try dsimp only); refine' Mine.replaceT ?a ?b ?c ?d ?e ?f ?g ?_; (case a => (try dsimp only); omega); (case b => (try dsimp only); omega); (case c => (try dsimp only); omega); (case d => (try dsimp only); omega); (case e => decide); (case f => omega); (case g => decide); intro t' k' hk' hl')))
local macro_rules | `(tactic| walk_at "binaryOp Add str str") => `(tactic| (k_here; (with_reducible show wpAny _ _ (binaryOp Operator.Add (Value.str _ _) (Value.str _ _)) _ _ _); k_dflt (refine' Mine.addT ?h ?hsz ?_; (case h => first | assumption | ((try dsimp only); omega)); (case hsz => size_fits)); intro t' k' hk' hl'))
local macro_rules | `(tactic| walk_at "own k_con") => `(tactic| (first | k_asm | k_in | assumption | exact rfl | ((try dsimp only); omega)))
local macro_rules | `(tactic| walk_at "call ref") => `(tactic| (k_here; (with_reducible show wpAny _ _ (call (Value.ref 257) _ _) _ _ _); k_dflt (refine' Mine.unescape_ok ?B ?F ?X ?N ?T ?hk ?hdp ?hu ?htk ?hx ?hs ?_; (case B => k_asm); (case F => k_asm); (case X => k_in); (case N => k_asm); (case T => k_asm); (case hk => exact rfl); (case hdp => (try dsimp only); omega); (case hu => (try dsimp only); omega); (case htk => (try dsimp only); omega); (case hx => assumption); (case hs => assumption); intro t' h' tk' htk' F' N')))
local macro_rules | `(tactic| walk_at "call ref") => `(tactic| (k_here; (with_reducible show wpAny _ _ (call (Value.ref 238) _ _) _ _ _); k_dflt (refine' Mine.escape_ok ?B ?F ?X ?N ?T ?hk ?hdp ?hu ?htk ?hx ?_; (case B => k_asm); (case F => k_asm); (case X => k_in); (case N => k_asm); (case T => k_asm); (case hk => exact rfl); (case hdp => (try dsimp only); omega); (case hu => (try dsimp only); omega); (case htk => (try dsimp only); omega); (case hx => assumption); intro t' h' tk' htk' F' N')))

local macro_rules | `(tactic| walk_at "ite") => `(tactic| first | refine Mine.iteT (by kernel_rfl!) ?_ | refine Mine.iteF (by kernel_rfl!) ?_)
namespace Mine
section
variable {w : World} {p : Program} {loose : List Str} {mean : ExcName → Option Value} {mg mb : Str → Option Value}
  {dp un : Nat} {gd : Option (List Code)} {cn : Str} {cs : Scope} {a : Addr} {ccd : Value} {cl : List (Str × Addr)} {outer : List Env} {A₀ : Around} {base h₀ : Heap} {L : Addr} {m : Str → Option Value} {s : Shared} {Q E : Value → Shared → Prop} {news : List (Addr × Obj)}


theorem tok_html1 {o d k st : Addr} {ob : Obj} {t2 t4 t5 t6 t7 : Tok} {md : Addr} {x : Str} (B : Below A₀ base outer h₀) (F : Fr h₀ L s.heap m) (X : (hd.heap_39 w.params).In h₀) (N : News h₀ L s.heap ((k, ob) :: (o, instObj 487 d) :: (d, rdict w.params t5 t6 t7 md (.bool true)) :: news)) (T : Top p loose mean mg mb h₀) (hk : cs.kind = .function)
  (hdp : dp + 60 < recursionLimit) (hu : un + 150 < cLine) (htk : 0 < s.toks) (hx : x.length ≤ 2000) (lo : (k == sysModules) = false)
  (hd0 : ob.IsDictOf (strKind PySem.Challenge.rw_bq5017_02.row.prog w) [(Str.ofString "type", .str (Str.ofString "block_html") t2), (Str.ofString "raw", .str x t4)])
  (hf0 : PyProof.V.FlatPairs PyData.str [(Str.ofString "type", .str (Str.ofString "block_html") t2), (Str.ofString "raw", .str x t4)] [(.str (Str.ofString "type"), .str (Str.ofString "block_html")), (.str (Str.ofString "raw"), .str x)])
  (ret : ∀ t' h' tk', 0 < tk' → Fr h₀ L h' m → News h₀ L h' ((k, ob) :: (o, instObj 487 d) :: (d, rdict w.params t5 t6 t7 md (.bool true)) :: news) → Q (.str (Str.ofString "<p>" ++ escF (Txt.strip x) ++ Str.ofString "</p>\n") t') { s with heap := h', toks := tk' }) :
  wpAny (model PySem.Challenge.rw_bq5017_02.row.prog w) (ktrTop dp un gd cn cs L a ccd cl outer) (call (.ref 341) [.ref o, .ref k, .ref st] []) Q E s := by
  revert X
  k_fill
  intro X
  refine wpAny_call ?_
  k_dflt ktr_enter
  k_steps
  all_goals (refine ret _ _ _ ?_ (by assumption) (subL (by assumption) (by intro p hp; repeat (first | assumption | refine List.Mem.tail _ ?_))))
  all_goals ((try dsimp only); omega)
end
end Mine
end
section
theorem Mine.start27 : True := by w_top off; trivial
open PySem PySem.W PyProof.Rows PySem.Calls PySem.Spec
set_option maxRecDepth 100000
set_option maxHeartbeats 8000000
set_option linter.unusedVariables false
local macro_rules | `(tactic| k_room) => `(tactic| ktr_room)
local macro_rules | `(tactic| k_all) => `(tactic| first | assumption | exact Mine.neAll (by assumption))
local macro_rules | `(tactic| k_lt $h:ident) => `(tactic| (replace $h := allLt_of $h; simp only [AllLt, and_true] at $h:ident; (repeat (have lx := And.left $h; replace $h := And.right $h))))
local macro_rules | `(tactic| ktr_enter) => `(tactic| (refine' code_def ?k1 ?k2 ?k3 ?k4 ?k5 ?kA ?kF ?kK ?k6 ?k7 ?k8 ?k9 ?kB ?_ ?c2 ?c3 ?c4 ?c5; (case kA => exact rfl); (case kF => exact rfl); (case kK => first | exact rfl | assumption); (case k1 => k_asm); (case k2 => k_asm); (case k3 => k_asm); (case k4 => k_asm); (case k5 => k_asm); (case k6 => k_is); (case k7 => k_is); (case k8 => ktr_room); (case k9 => first | exact BindsTo.of_eq rfl | exact binds_K (by k_in) rfl (by k_is) rfl rfl rfl); (case c5 => decide); (case kB => exact locs rfl); (case c2 => exact rfl); (case c3 => exact rfl); (case c4 => exact rfl); k_whole; intro g' L' h' FG' F' N' B' X' T'; (try dsimp only); (try k_lift B'); (try k_fold)))
local macro_rules | `(tactic| walk_at "call ref") => `(tactic| (k_here; k_dflt (
  (refine' call_cls ?k1 ?k2 ?k3 ?k4 ?k5 ?k6 ?_; (case k1 => k_asm); (case k2 => k_asm); (case k3 => k_asm); (case k4 => k_is); (case k5 => k_is); (case k6 => k_is); intro x' d' h' F' N' l1 l2; (try k_lt l1); (try k_lt2 l2); 
   (refine' ks_code_super ?k1 ?k2 ?k3 ?k4 ?k5 ?kA ?kF ?kK ?k6 ?k7 ?k8 ?k9 ?kB ?_ ?c1 ?c2 ?c3 ?c4; (case kA => exact rfl); (case kF => exact rfl); (case kK => first | exact rfl | assumption); (case k1 => k_asm); (case k2 => k_asm); (case k3 => k_asm); (case k4 => k_asm); (case k5 => k_asm); (case k6 => k_is); (case k7 => k_is); (case k8 => ktr_room); (case k9 => first | exact BindsTo.of_eq rfl | exact binds_K (by k_in) rfl (by k_is) rfl rfl rfl); (case kB => exact locs rfl); (case c1 => decide); (case c2 => exact rfl); (case c3 => exact rfl); (case c4 => exact rfl); intro g' L' h' FG' F' N' B' X' T' l1; (try k_lt l1); (try dsimp only); (try k_lift B'))))))
local macro_rules | `(tactic| walk_at "eval Name") => `(tactic| (k_here; k_dflt (refine' nameX_B ?F ?X ?T ?e ?v ?n ?_ ?a ?b; (case F => k_asm); (case X => k_asm); (case T => k_asm); (case a => rfl); (case b => rfl); (case e => k_is); (case v => first | boot_by_name | kernel_rfl); (case n => decide); k_whole)))
local macro_rules | `(tactic| walk_at "call type:super") => `(tactic| (k_here; k_dflt (refine' Mine.super2 ?F ?X ?N ?I ?c ?d ?_; (case F => k_asm); (case X => k_asm); (case N => k_asm); (case I => k_inst); (case c => k_is); (case d => k_is);  intro so' h' F' N' l1; (try k_lt l1))))

local macro_rules | `(tactic| walk_at "ite") => `(tactic| (first | refine ite_neg (by decide) ?_ | refine ite_pos (by decide) ?_ | refine ite_neg (by decide +kernel) ?_ | refine ite_pos (by decide +kernel) ?_))
local macro_rules | `(tactic| walk_at "forall") => `(tactic| (k_here; intro htk; (try dsimp only at htk); (try dsimp only)))
local macro_rules | `(tactic| walk_at "execs cons") => `(tactic| (k_here; k_dflt (refine' Mine.execs_cons_T ?h ?_; (case h => first | assumption | ((try dsimp only); omega)))))
local macro_rules | `(tactic| walk_at "execs cons") => `(tactic| (k_here; (fail_if_success (refine' Mine.gen_toks (by with_reducible assumption) ?_)); (try dsimp only); refine' Mine.gen_toks (by omega) ?_; intro tk htk))
local macro_rules | `(tactic| walk_at "execs nil") => `(tactic| (k_here; (fail_if_success (refine' Mine.gen_toks (by with_reducible assumption) ?_)); (try dsimp only); refine' Mine.gen_toks (by omega) ?_; intro tk htk))
local macro_rules | `(tactic| walk_at "call builtin:str.replace") => `(tactic| (k_here; k_dflt ((try dsimp only); refine' Mine.replaceT ?a ?b ?c ?d ?e ?f ?g ?_; (case a => (try dsimp only); omega); (case b => (try dsimp only); omega); (case c => (try dsimp only); omega); (case d => (try dsimp only); omega); (case e => decide); (case f => omega); (case g => decide); intro t' k' hk' hl')))

local macro_rules | `(tactic| walk_at "getMethod ref") => `(tactic| (k_here; (with_reducible show wpAny _ _ (getMethod _ (Str.ofString "fullmatch") _) _ _ _); k_dflt (refine' Mine.fullget ?X ?e ?F ?_; (case X => k_asm); (case e => k_is); (case F => k_asm))))
local macro_rules | `(tactic| walk_at "call builtin:re.Pattern.fullmatch") => `(tactic| (k_here; k_dflt (refine' Mine.full_true ?F ?X ?N ?h ?_; (case F => k_asm); (case X => k_asm); (case N => k_asm); (case h => assumption); intro q' vs' h' F' N' l1; (try k_lt l1))))
local macro_rules | `(tactic| walk_at "call builtin:re.Pattern.fullmatch") => `(tactic| (k_here; k_dflt (refine' Mine.full_false ?F ?X ?N ?h ?_; (case F => k_asm); (case X => k_asm); (case N => k_asm); (case h => assumption); intro h' F' N')))

local macro_rules | `(tactic| walk_at "binaryOp Add str str") => `(tactic| (k_here; (with_reducible show wpAny _ _ (binaryOp Operator.Add (Value.str _ _) (Value.str _ _)) _ _ _); k_dflt (refine' Mine.addT ?h ?hsz ?_; (case h => first | assumption | ((try dsimp only); omega)); (case hsz => size_fits)); intro t' k' hk' hl'))
local macro_rules | `(tactic| walk_at "leaving ref") => `(tactic| (k_here; k_dflt (refine' leave_newS ?K ?hx ?F ?N ?_; (case hx => k_asm); (case K => k_asm); (case F => k_asm); (case N => k_asm); intro h' RS' R' U')))
local macro_rules | `(tactic| walk_at "truthy ref") => `(tactic| (k_here; k_dflt (refine' Mine.truthy_match ?h ?_; (case h => exact News.get (by k_asm) (by k_mem)))))
local macro_rules | `(tactic| walk_at "call ref") => `(tactic| (k_here; (with_reducible show wpAny _ _ (call (Value.ref 320) _ _) _ _ _); k_dflt (refine' Mine.attr_str (d := 0) ?B ?F ?X ?N ?T ?hk ?hdp ?hu ?htk ?hx ?hs ?hs2 ?_; (case B => k_asm); (case F => k_asm); (case X => k_in); (case N => k_asm); (case T => k_asm); (case hk => exact rfl); (case hdp => (try dsimp only); omega); (case hu => (try dsimp only); omega); (case htk => (try dsimp only); omega); (case hx => assumption); (case hs => assumption); (case hs2 => assumption); intro t' h' tk' htk' F' N')))
local macro_rules | `(tactic| walk_at "call ref") => `(tactic| (k_here; (with_reducible show wpAny _ _ (call (Value.ref 320) _ _) _ _ _); k_dflt (refine' Mine.attr_int (d := 0) ?B ?F ?X ?N ?T ?hk ?hdp ?hu ?htk ?hn ?_; (case B => k_asm); (case F => k_asm); (case X => k_in); (case N => k_asm); (case T => k_asm); (case hk => exact rfl); (case hdp => (try dsimp only); omega); (case hu => (try dsimp only); omega); (case htk => (try dsimp only); omega); (case hn => assumption); intro t' h' tk' htk' F' N')))
local macro_rules | `(tactic| walk_at "call builtin:list.append") => `(tactic| (refine Mine.Held.out ?_))
local macro_rules | `(tactic| walk_at "call builtin:str.join") => `(tactic| (refine Mine.Held.out ?_))
local macro_rules | `(tactic| walk_at "exec For Tuple Call cons nil") => `(tactic| (refine Mine.Held.out ?_))
local macro_rules | `(tactic| walk_at "call builtin:dict.items") => `(tactic| (refine Mine.Held.out ?_))
namespace Mine
section
variable {w : World} {p : Program} {loose : List Str} {mean : ExcName → Option Value} {mg mb : Str → Option Value}
  {dp un : Nat} {gd : Option (List Code)} {cn : Str} {cs : Scope} {a : Addr} {ccd : Value} {cl : List (Str × Addr)} {outer : List Env} {A₀ : Around} {base h₀ : Heap} {L : Addr} {m : Str → Option Value} {s : Shared} {Q E : Value → Shared → Prop} {news : List (Addr × Obj)}


theorem render_ok {o d dA : Addr} {dd oA : Obj} {at' : List At} (B : Below A₀ base outer h₀) (F : Fr h₀ L s.heap m) (X : (hd.heap_39 w.params).In h₀) (N : News h₀ L s.heap ((o, instObj 487 d) :: (d, dd) :: (dA, oA) :: news)) (T : Top p loose mean mg mb h₀) (hk : cs.kind = .function)
  (hdp : dp + 60 < recursionLimit) (hu : un + 150 < cLine) (htk : 0 < s.toks) (hdd : ∃ t1 t2 t3 md v, dd = rdict w.params t1 t2 t3 md v) (hA : oA.IsDictOf (strKind PySem.Challenge.rw_bq5017_02.row.prog w) (kvOf at')) (hgood : ∀ a ∈ at', GoodA a) (hlen : at'.length ≤ 100) (hsys : (dA == sysModules) = false)
  (ret : (∀ a ∈ at', nameRes a.1 = some true) → ∀ t' h' tk', 0 < tk' → Fr h₀ L h' m → News h₀ L h' ((o, instObj 487 d) :: (d, dd) :: (dA, oA) :: news) → Q (.str (Txt.join (Str.ofString "") (piecesOf at')) t') { s with heap := h', toks := tk' })
  (bad : (∃ a ∈ at', nameRes a.1 = some false) → ∀ x G h' tk', Fr h₀ L G m → RaisedSN base G (envX cn cs L a ccd cl :: outer) x (.type "ValueError") ((o, instObj 487 d) :: (d, dd) :: (dA, oA) :: news) h' → G.UpToSlots h' → E (.ref x) { s with heap := h', toks := tk' }) :
  wpAny (model PySem.Challenge.rw_bq5017_02.row.prog w) (ktrTop dp un gd cn cs L a ccd cl outer) (call (.ref 327) [.ref o, .ref dA] []) Q E s := by
  revert X
  k_fill
  intro X
  obtain ⟨t1, t2, t3, md, dv, rfl⟩ := hdd
  refine wpAny_call ?_
  k_dflt ktr_enter
  k_steps
  refine ⟨?_⟩
  rename Fr _ _ _ _ => F2
  refine Mine.For_pairF F2 rfl ?_
  k_steps
  refine ⟨?_⟩
  rename News _ _ _ _ => N2
  refine Mine.items_call hA (by k_mem) F2 N2 hsys fun vw h3 hvw F3 N3 l3 l4 => ?_
  refine Mine.iter_pairs (knd := strKind PySem.Challenge.rw_bq5017_02.row.prog w) rfl rfl rfl rfl hvw hA (by k_mem) F3 N3 (RJ (mOf F3) (headOf N3) (tailOf N3) at') RJ0 (by assumption) ?off ?step ?done ?hE
  case hE => passes_own
  case off =>
    rintro i m' nx ⟨_, _, ps, nn, rfl, _⟩
    refine ⟨by k_mem, ?_⟩
    intro q hq
    rcases List.mem_cons.mp hq with e | hq
    · rw [e]; exact Nat.ne_of_lt (Nat.lt_trans (l3 (headOf N3, PySem.W.listOf #[] 0) (List.Mem.head _)) l4)
    · exact Nat.ne_of_lt (Nat.lt_trans (l3 q (List.Mem.tail _ hq)) l4)
  case done =>
    rintro h' tk m' nx' htk4 F4 N4 ⟨hall, hm, ps, nn, rfl, hps⟩
    have hsz : (kvOf at').length = at'.length := by simp [kvOf]
    rw [hsz, List.take_length] at hall hps
    rcases hm with rfl | ⟨a', b', rfl⟩
    all_goals
      k_steps
      refine ⟨?_⟩
      refine SC.join (l := ps) ⟨_, (N4 _ (List.Mem.head _)).1, rfl, _, rfl⟩ hps (pieces_join hgood hlen) fun t' k => ?_
      k_steps
      refine ret hall _ _ _ (by assumption) (by assumption) (subL (by assumption) (fun p hp => List.Mem.tail _ hp))
  case step =>
    rintro i n v key m₁ nx₁ h tk io hx hkey ⟨hall, hm, ps, nn, rfl, hps⟩ htk4 F4 N4
    replace F4 := fr_turn hm F4
    obtain ⟨wr, hget⟩ := kv_get hx
    obtain ⟨kt, rfl⟩ := Value.isStrOf_shape hkey
    have hg := hgood _ (List.mem_of_getElem? hget)
    obtain ⟨hnl, hres, hv⟩ := hg
    dsimp only at hnl hres hv
    have hps1 := ps_len hps hlen
    have hne : ∀ p ∈ (h3.objs.size, io) :: tailOf N3, p.1 ≠ headOf N3 := by
      intro p hp
      rcases List.mem_cons.mp hp with e | hp
      · rw [e]; exact Nat.ne_of_gt (Nat.lt_trans (l3 (headOf N3, PySem.W.listOf #[] 0) (List.Mem.head _)) l4)
      · refine Nat.ne_of_lt (allOf (d := headOf N3) (news := tailOf N3) ?_ p hp)
        exact ⟨by assumption, by assumption, by assumption, by assumption⟩
    rcases hres with hres | hres
    · cases wr with
      | skip =>
        rcases hv with rfl | rfl
        all_goals
          k_steps
          refine ⟨.inr rfl, _, _, _, (headOf N3, PySem.W.listOf (strValues ps).toArray nn) :: tailOf N3, ?_, rfl, (by assumption), (subL (by assumption) (fun p hp => List.Mem.tail _ hp)), RJ_next hget hall hres set2_mk (by rw [hps]; exact (List.append_nil _).symm)⟩
          (try dsimp only); omega
      | alone =>
        cases hv
        k_steps
        refine ⟨?_⟩
        refine append_str (rest := (h3.objs.size, io) :: tailOf N3) (by assumption) (by assumption) (by k_mem) (fun p hp => List.Mem.tail _ (ins hp)) hne hps1 fun ps' h' nn' hps' F' N' => ?_
        k_steps
        refine ⟨.inl rfl, _, _, _, _, ?_, rfl, F', swap2 N', RJ_next hget hall hres set2_mk (by rw [hps', hps]; rfl)⟩
        (try dsimp only); omega
      | txt y =>
        obtain ⟨hy, hv⟩ := hv
        rcases hv with ⟨n', t', rfl, hb, rfl⟩ | ⟨x', t', z', rfl, hx1, hx2, hx3, rfl⟩
        all_goals
          k_steps
          refine ⟨?_⟩
          refine append_str (rest := (h3.objs.size, io) :: tailOf N3) (by assumption) (by assumption) (by k_mem) (fun p hp => List.Mem.tail _ (ins hp)) hne hps1 fun ps' h' nn' hps' F' N' => ?_
          k_steps
          refine ⟨.inl rfl, _, _, _, _, ?_, rfl, F', swap2 N', RJ_next hget hall hres set2_mk (by rw [hps', hps]; rfl)⟩
          (try dsimp only); omega
    · k_steps
      refine bad ⟨_, List.mem_of_getElem? hget, hres⟩ _ _ _ _ (by assumption) (RaisedSN.sub (by assumption) ?_) (by assumption)
      intro p hp
      exact List.Mem.tail _ (List.Mem.tail _ hp)
end
end Mine
end
section
open PySem PySem.W PyProof.Rows PySem.Calls PySem.Spec
set_option maxRecDepth 100000
set_option maxHeartbeats 8000000
set_option linter.unusedVariables false
namespace Mine
section
variable {prog : Program} {w : World} {A : Around} {E : Value → Shared → Prop} {s : Shared} {K : Type} [DecidableEq K] {knd : KeyKind prog w K} {d : Addr} {kvs : List (K × Value)} {k : K} {key v : Value}
theorem idx_none {es : Array DictEntry} (hp : Pairs knd es.toList kvs) (hnew : k ∉ kvs.map (·.1)) : (es.findIdx? fun e => knd.is k e.key) = none := by
  have h1 : (es.findIdx? fun e => knd.is k e.key) = kvs.findIdx? fun kv => decide (kv.1 = k) := by
    rw [← hp.findIdx k]; obtain ⟨l⟩ := es; simp
  rw [h1, List.findIdx?_eq_none_iff]
  intro x hx
  exact decide_eq_false fun e => hnew (List.mem_map.mpr ⟨x, hx, e⟩)
theorem find_new {Q : Option Nat → Shared → Prop} (hkey : knd.is k key = true) (hm : s.heap.DictOf knd d kvs) (hnew : k ∉ kvs.map (·.1)) (h : Q none s) :
    wpAny (model prog w) A (dictFind d key (knd.hash k)) Q E s := by
  obtain ⟨o, es, ep, ho, hc, hd, hk, hp, hn⟩ := hm
  exact wpAny_dictFind_of hkey ho hd hk (by rw [idx_none hp hnew]; exact h)
theorem put_new {Q : Unit → Shared → Prop} (hkey : knd.is k key = true) (hm : s.heap.DictOf knd d kvs) (hnew : k ∉ kvs.map (·.1)) (hsz : kvs.length ≤ sizeLine)
    (hQ : ∀ h', h'.DictOf knd d (kvs ++ [(k, v)]) → Heap.SameBut d s.heap h' → Q () { s with heap := h' }) :
    wpAny (model prog w) A (dictPut d (knd.hash k) key v) Q E s := by
  have hm0 := hm
  obtain ⟨o, es, ep, ho, hc, hd, hk, hp, hn⟩ := hm
  have hes : es.size ≤ sizeLine := by have e1 := hp.length; have e2 : es.toList.length = es.size := by simp
                                      omega
  unfold dictPut
  refine wpAny_bind (find_new hkey hm0 hnew ?_)
  dsimp only
  refine wpAny_updateDictKeys (hz := hes) ho hd (hQ _ ⟨_, _, ep + 1, Heap.get?_update_self _ ho (Obj.isFreed_of_dict (Obj.data_mapDictKeys hd _)),
      hc.mapDictKeys _, Obj.data_mapDictKeys hd _, hk.push hkey _, ?_, ?_⟩ (Heap.SameBut.update ..))
  · have := hp.append hkey (knd.hash k) v
    obtain ⟨l⟩ := es
    simpa using this
  · rw [List.map_append, List.nodup_append]
    refine ⟨hn, by simp, ?_⟩
    intro a ha b hb
    simp only [List.map_cons, List.map_nil, List.mem_singleton] at hb
    subst hb
    exact fun e => hnew (e ▸ ha)
end
section
variable {prog : Program} {w : World} {A : Around} {E : Value → Shared → Prop} {s : Shared} {d o : Addr} {more : List (Str × Value)}
theorem strk {k : Str} {v : Value} (h : (PySem.strKind prog w).is k v = true) : ∃ t, v = .str k t := by
  cases v with
  | str x t =>
    have : (PySem.strKind prog w).is x (.str x t) = true := strKind_is prog w x t
    exact ⟨t, by rw [(PySem.strKind prog w).inj _ _ _ this h]⟩
  | _ => simp [PySem.strKind, Value.isStrOf] at h
theorem merge_new {Q : Unit → Shared → Prop} (hdo : d ≠ o) (hoS : (o == sysModules) = false)
    (hd : s.heap.DictOf (PySem.strKind prog w) d []) (ho : s.heap.DictOf (PySem.strKind prog w) o more) (hsz : more.length ≤ sizeLine)
    (hQ : ∀ h', h'.DictOf (PySem.strKind prog w) d more → Heap.SameBut d s.heap h' → Q () { s with heap := h' }) :
    wpAny (model prog w) A (mergeMapping d (.ref o) true) Q E s := by
  obtain ⟨od, esd, epd, hod, hcd, hdd, hkd, hpd, hnd⟩ := id hd
  obtain ⟨oo, eso, epo, hoo, hco, hdo', hko, hpo, hno⟩ := id ho
  have hlen : more.length = eso.size := by rw [← hpo.length]; simp
  unfold mergeMapping
  refine wpAny_bind (wpAny_isInstance ho.typeIs isSubtype_dict_dict ?_)
  simp only [if_true]
  refine wpAny_bind (wpAny_specialOf ho.typeIs F.slot_dict_iter.lookup (wpAny_bind (wpAny_pure ?_)))
  simp only [beq_self_eq_true]
  rw [if_neg (by rw [hoS]; exact Bool.false_ne_true)]
  refine wpAny_bind (wpAny_dictEntries hod hdd ?_)
  have hesd : esd = #[] := by
    have := hpd.length
    exact Array.eq_empty_of_size_eq_zero (by simpa using this)
  rw [hesd, if_pos (show (#[] : Array DictEntry).isEmpty = true from rfl)]
  refine wpAny_bind (wpAny_dictEntries hoo hdo' ?_)
  refine wpAny_bind ?_
  rw [← Array.forIn_toList]
  refine wpAny_forIn_list _ (fun rest _ s' => s' = s ∧ ∀ e ∈ rest, e ∈ eso) _ ?_ ?_ _ _ ⟨rfl, fun e he => by simpa using he⟩
  · rintro e rest b s' ⟨rfl, hall⟩
    obtain ⟨k', hk', _⟩ := hko e (hall e (.head _))
    obtain ⟨t, ht⟩ := strk hk'
    rw [ht]
    exact wpAny_pure ⟨rfl, fun e he => hall e (.tail _ he)⟩
  rintro b s' ⟨rfl, _⟩
  refine wpAny_bind (wpAny_dictEntries hoo hdo' ?_)
  refine wpAny_bind (wpAny_dictEpoch hoo hdo' ?_)
  refine wpAny_bind ?_
  refine wpAny_forIn_list _
      (fun rest _ s'' => ∃ h' i, s'' = { s' with heap := h' } ∧ rest = List.range' i (eso.size - i) ∧ i ≤ eso.size ∧ h'.DictOf (PySem.strKind prog w) d (more.take i) ∧ h'.get? o = some oo ∧ Heap.SameBut d s'.heap h')
      _ ?_ ?_ _ _ ⟨s'.heap, 0, rfl, by simp [List.range_eq_range'], Nat.zero_le _, by simpa using hd, hoo, Heap.SameBut.refl _ _⟩
  · rintro x rest b s'' ⟨h', i, rfl, hr, hi, hd', hoo', hs'⟩
    have hlt : i < eso.size := by
      rcases Nat.lt_or_ge i eso.size with h | h
      · exact h
      · rw [Nat.sub_eq_zero_of_le h] at hr; simp at hr
    obtain ⟨rfl, hrest⟩ : x = i ∧ rest = List.range' (i + 1) (eso.size - (i + 1)) := by
      have e : eso.size - i = (eso.size - (i + 1)) + 1 := by omega
      rw [e, List.range'_succ] at hr
      injection hr with h1 h2
      exact ⟨h1, h2⟩
    refine wpAny_bind (wpAny_dictEntries hoo' hdo' ?_)
    rw [Array.getElem?_eq_getElem hlt]
    obtain ⟨kv, hkv⟩ : ∃ kv, more[x]? = some kv := ⟨more[x]'(by rw [hlen]; exact hlt), List.getElem?_eq_getElem _⟩
    obtain ⟨k, v⟩ := kv
    obtain ⟨hkey, hval⟩ := hpo.get? (e := eso[x]) (by simp [hlt]) hkv
    obtain ⟨k', hkey', hhash⟩ := hko eso[x] (Array.getElem_mem hlt)
    obtain rfl : k' = k := (PySem.strKind prog w).inj _ _ _ hkey' hkey
    have htk : more.take (x + 1) = more.take x ++ [(k', v)] := by rw [List.take_add_one, hkv]; rfl
    have hnew : k' ∉ (more.take x).map (·.1) := by
      have h1 : ((more.take (x + 1)).map (·.1)).Nodup := List.Nodup.sublist (List.Sublist.map _ (List.take_sublist _ _)) hno
      rw [htk, List.map_append, List.nodup_append] at h1
      exact fun h => h1.2.2 _ h k' (by simp) rfl
    dsimp only
    refine wpAny_bind (wpAny_holding ?_)
    rw [hhash, hval]
    refine wpAny_bind (find_new (s := { s' with heap := h' }) hkey hd' hnew ?_)
    rw [if_neg (show ¬ (Option.isSome (none : Option Nat)) = true from Bool.false_ne_true)]
    refine put_new (s := { s' with heap := h' }) hkey hd' hnew (by rw [List.length_take]; omega) fun h'' hd'' hs'' => ?_
    have hoo'' : h''.get? o = some oo := (hs''.2 o (Ne.symm hdo)).trans hoo'
    refine wpAny_bind (wpAny_dictEpoch hoo'' hdo' ?_)
    rw [if_neg (by simp)]
    exact wpAny_pure ⟨h'', x + 1, rfl, hrest, hlt, htk ▸ hd'', hoo'', hs'.trans hs''⟩
  · rintro b s'' ⟨h', i, rfl, hr, hi, hd', hoo', hs'⟩
    have hi2 : i = eso.size := by
      rcases Nat.lt_or_ge i eso.size with h | h
      · have e : eso.size - i = (eso.size - (i + 1)) + 1 := by omega
        rw [e, List.range'_succ] at hr
        cases hr
      · omega
    refine wpAny_pure (hQ _ ?_ hs')
    have e : more.take i = more := by rw [hi2, ← hlen, List.take_length]
    exact e ▸ hd'
/-- the keywords read back out of the merged dict -/
theorem kw_read {f : Value} {Q : List (Str × Value) → Shared → Prop} (hd : s.heap.DictOf (PySem.strKind prog w) d more) (h : Q more s) :
    wpAny (model prog w) A (keywordsIn f d) Q E s := by
  obtain ⟨od, es, epd, hod, hcd, hdd, hkd, hpd, hnd⟩ := id hd
  unfold keywordsIn
  refine wpAny_bind (wpAny_dictEntries hod hdd ?_)
  refine wpAny_bind ?_
  rw [← Array.forIn_toList]
  refine wpAny_forIn_list _ (fun rest kw s' => s' = s ∧ ∃ l2, Pairs (PySem.strKind prog w) rest l2 ∧ kw ++ l2 = more) _ ?_ ?_ _ _ ⟨rfl, more, hpd, rfl⟩
  · rintro e rest kw s' ⟨rfl, l2, hp, hl⟩
    cases hp with
    | @cons _ kv _ kvs h1 h2 h3 =>
    obtain ⟨t, ht⟩ := strk h1
    rw [ht]
    refine wpAny_pure ⟨rfl, kvs, h3, ?_⟩
    rw [← hl, List.append_assoc, h2]
    rfl
  · rintro kw s' ⟨rfl, l2, hp, hl⟩
    cases hp
    refine wpAny_pure ?_
    rw [List.append_nil] at hl
    exact hl ▸ h
end
section
variable {prog : Program} {w : World} {A : Around} {E : Value → Shared → Prop} {s : Shared} {K : Frag} {h₀ : Heap} {L : Addr} {m : Str → Option Value} {news : List (Addr × Obj)} {ka : Addr} {oa : Obj} {kvs : List (Str × Value)}
theorem merged_kw {f : Value} {x : Sem Value} {Q : Addr → Shared → Prop} (F : Fr h₀ L s.heap m) (N : News h₀ L s.heap news) (hka : (ka, oa) ∈ news) (lo : (ka == sysModules) = false) (hd : oa.IsDictOf (PySem.strKind prog w) kvs) (hsz : kvs.length ≤ sizeLine)
    (hx : ∀ s' (Q' : Value → Shared → Prop), Fr h₀ L s'.heap m → Q' (.ref ka) s' → wpAny (model prog w) A x Q' E s')
    (h : ∀ D o' h', Fr h₀ L h' m → News h₀ L h' ((D, o') :: news) → (∀ p ∈ news, p.1 < D) → h'.DictOf (PySem.strKind prog w) D kvs → Q D { s with heap := h' }) :
    wpAny (model prog w) A (mergedKeywords f [(none, x)]) Q E s := by
  have N1 := News.push F N { cls := .type "dict", data := .dict #[] }
  have F1 := F.push { cls := .type "dict", data := .dict #[] }
  unfold mergedKeywords
  refine wpAny_bind (wpAny_alloc ?_)
  refine wpAny_bind (wpAny_holding ?_)
  dsimp only
  refine wpAny_bind ?_
  rw [List.forIn_cons]
  refine wpAny_bind ?_
  dsimp only
  rw [if_pos (show List.isEmpty ([] : List (Str × Sem Value)) = true from rfl)]
  refine wpAny_bind (wpAny_pure ?_)
  refine wpAny_bind (hx { s with heap := s.heap.push { cls := .type "dict", data := .dict #[] } } _ F1 ?_)
  refine wpAny_bind (wpAny_onRaise (wpAny_holding (wpAny_tryCatch (wpAny_onRaise ?_))))
  have hne : s.heap.objs.size ≠ ka := fun e => absurd (Heap.lt_size (N _ hka).1) (by rw [e]; exact Nat.lt_irrefl _)
  refine merge_new hne lo (Heap.DictOf.new s.heap) (kda_dict N1 (.tail _ hka) hd) hsz fun h' hm hs => ?_
  refine wpAny_pure ?_
  dsimp only
  rw [List.forIn_nil]
  refine wpAny_pure ?_
  rw [if_pos (show List.isEmpty ([] : List (Str × Sem Value)) = true from rfl)]
  refine wpAny_pure (wpAny_pure ?_)
  obtain ⟨o', ho', hd'⟩ := Heap.dictOf_iff.mp hm
  exact h _ o' h' (F1.change hs (N1 _ (.head _)).2.1 (N1.fresh (.head _))) (N1.setHead N.apart hs ho') (fun p hp => Heap.lt_size (N p hp).1) hm
theorem callWith_kws {pos kp : Pos} {q g : Addr} {self xv : Value} {e kwe : Expr} {env : Env} {Q : Value → Shared → Prop} (X : K.In h₀) (F : Fr h₀ L s.heap m) (N : News h₀ L s.heap news) (hq : (q, methodObj (.ref g) self) ∈ news) (hf : fnIn K g = true)
    (hka : (ka, oa) ∈ news) (lo : (ka == sysModules) = false) (hd : oa.IsDictOf (PySem.strKind prog w) kvs) (hsz : kvs.length ≤ sizeLine)
    (he : ∀ s' (Q' : Value → Shared → Prop), Fr h₀ L s'.heap m → Q' xv s' → wpAny (model prog w) A (eval e env) Q' E s')
    (hx : ∀ s' (Q' : Value → Shared → Prop), Fr h₀ L s'.heap m → Q' (.ref ka) s' → wpAny (model prog w) A (eval kwe env) Q' E s')
    (h : ∀ D o' h', Fr h₀ L h' m → News h₀ L h' ((D, o') :: news) → (∀ p ∈ news, p.1 < D) → wpAny (model prog w) A (call (.ref q) [xv] kvs) Q E { s with heap := h' })
    (hs : starEach [e] env = [(false, eval e env)] := by rfl) (hk : keywordEach [⟨none, kwe, kp⟩] env = [(none, eval kwe env)] := by rfl) :
    wpAny (model prog w) A (callWith pos (.ref q) [] (backTo pos (starEach [e] env)) (backToKw pos (keywordEach [⟨none, kwe, kp⟩] env))) Q E s := by
  rw [hs, hk]
  unfold callWith
  refine wpAny_bind (wpAny_holding ?_)
  unfold evalArgs
  dsimp only [backTo, List.map]
  refine wpAny_bind (spliced_cons ?_)
  rw [if_neg Bool.false_ne_true]
  refine he s _ F (spliced_nil ?_)
  refine wpAny_bind (wpAny_pure ?_)
  dsimp only
  refine wpAny_holding ?_
  rw [if_neg (show ¬ (List.all (backToKw pos [(none, eval kwe env)]) fun x => x.1.isSome) = true from Bool.false_ne_true)]
  refine wpAny_bind ?_
  refine merged_kw F N hka lo hd hsz (fun s' Q' F' hq' => wpAny_bind (hx s' _ F' (wpAny_bind (wpAny_standAt (wpAny_pure hq'))))) fun D o' h' F' N' l hD => ?_
  refine wpAny_bind (wpAny_pure ?_)
  refine wpAny_bind (wpAny_holding (kw_read (s := { s with heap := h' }) hD ?_))
  refine wpAny_pure ?_
  refine wpAny_bind (wpAny_standAt ?_)
  dsimp only
  have hm : MethP K q g self h' := ⟨(N' _ (.tail _ hq)).1, X.keeps F'.keep⟩
  unfold fnIn at hf
  split at hf
  · rename_i e1
    refine wpAny_bind (Looks.here (r := Keeper.boundFrame) ?_ ?_)
    · exact (Looks.ld (part := none) hm.1).andThen ((Looks.ld (part := none) (hm.2 _ _ e1)).andThen .now)
    · show wpAny _ _ (operate (.ref q :: ([] ++ [xv]).reverse ++ kvs.map (·.2)) (call (.ref q) ([] ++ [xv]) kvs) >>= fun r => holding [r] point >>= fun _ => pure r) _ _ _
      exact wpAny_bind (wpAny_mono (wpAny_operating (h D o' h' F' N' l)) (fun r s₂ hr => wpAny_bind (wpAny_holding (wpAny_point (wpAny_pure hr)))) fun _ _ x => x)
  · cases hf
theorem callWith_kwN {pos kp p1 p2 : Pos} {xn an name : Str} {scope : Scope} {a : Addr} {cd : Value} {q g : Addr} {self xv : Value} {Q : Value → Shared → Prop} (X : K.In h₀) (F : Fr h₀ L s.heap m) (N : News h₀ L s.heap news) (hxv : m xn = some xv) (hkv : m an = some (.ref ka)) (hq : (q, methodObj (.ref g) self) ∈ news) (hf : fnIn K g = true)
    (hka : (ka, oa) ∈ news) (hd : oa.IsDictOf (PySem.strKind prog w) kvs) (lo : (ka == sysModules) = false) (hsz : kvs.length ≤ sizeLine)
    (h : ∀ D o' h', Fr h₀ L h' m → News h₀ L h' ((D, o') :: news) → (∀ p ∈ news, p.1 < D) → wpAny (model prog w) A (call (.ref q) [xv] kvs) Q E { s with heap := h' })
    (hk0 : scope.kind = .function := by rfl) (hl1 : (envOf name scope L a cd).kindOf xn = some .local := by rfl) (hd1 : (xn == ("__debug__" : Str)) = false := by decide) (hl2 : (envOf name scope L a cd).kindOf an = some .local := by rfl) (hd2 : (an == ("__debug__" : Str)) = false := by decide)
    (hs : starEach [.Name xn p1] (envOf name scope L a cd) = [(false, eval (.Name xn p1) (envOf name scope L a cd))] := by rfl) (hk : keywordEach [⟨none, .Name an p2, kp⟩] (envOf name scope L a cd) = [(none, eval (.Name an p2) (envOf name scope L a cd))] := by rfl) :
    wpAny (model prog w) A (callWith pos (.ref q) [] (backTo pos (starEach [.Name xn p1] (envOf name scope L a cd))) (backToKw pos (keywordEach [⟨none, .Name an p2, kp⟩] (envOf name scope L a cd)))) Q E s :=
  callWith_kws X F N hq hf hka lo hd hsz (fun s' Q' F' hq' => ld F' hxv hq' hk0 hl1 hd1) (fun s' Q' F' hq' => ld F' hkv hq' hk0 hl2 hd2) h hs hk
end
end Mine
end
section
open PySem PySem.W PyProof.Rows PySem.Calls PySem.Spec
set_option maxRecDepth 100000
set_option maxHeartbeats 8000000
set_option linter.unusedVariables false
namespace Mine
theorem truthyS {prog : Program} {w : World} {A : Around} {E : Value → Shared → Prop} {s : Shared} {x : Str} {t : Tok} {b : Bool} {Q : Bool → Shared → Prop} (hb : (!decide (x.length = 0)) = b) (hl : x.length ≤ 1000000) (h : Q b { s with toks := s.toks + 1 + 1 }) : wpAny (model prog w) A (truthy (.str x t)) Q E s := by
  refine P.truthy_str (by omega) ?_
  have e : ((x.length : Int) != 0) = (!decide (x.length = 0)) := by
    cases hz : decide (x.length = 0) with
    | true => have := of_decide_eq_true hz; simp [this]
    | false => have := of_decide_eq_false hz; simp [this]
  rw [e, hb]
  exact h
theorem full2 {h₀ h : Heap} {L : Addr} {a b c : Addr × Obj} {full : List (Addr × Obj)} (N : News h₀ L h full) (ha : a ∈ full) (hb : b ∈ full) (hc : c ∈ full) : News h₀ L h (a :: b :: c :: full) := fun p hp => by
  rcases List.mem_cons.mp hp with rfl | hp
  · exact N _ ha
  rcases List.mem_cons.mp hp with rfl | hp
  · exact N _ hb
  rcases List.mem_cons.mp hp with rfl | hp
  · exact N _ hc
  exact N p hp
section
variable {w : World} {p : Program} {loose : List Str} {mean : ExcName → Option Value} {mg mb : Str → Option Value}
  {dp un : Nat} {gd : Option (List Code)} {cn : Str} {cs : Scope} {a : Addr} {ccd : Value} {cl : List (Str × Addr)} {outer : List Env} {A₀ : Around} {base h₀ : Heap} {L : Addr} {m : Str → Option Value} {s : Shared} {Q E : Value → Shared → Prop} {full : List (Addr × Obj)}
theorem render_told {o d dA : Addr} {t1 t2 t3 : Tok} {md : Addr} {dv : Value} {oA : Obj} {at' : List At} (B : Below A₀ base outer h₀) (F : Fr h₀ L s.heap m) (X : (hd.heap_39 w.params).In h₀) (N : News h₀ L s.heap full) (ho : (o, instObj 487 d) ∈ full) (hd' : (d, rdict w.params t1 t2 t3 md dv) ∈ full) (hdA : (dA, oA) ∈ full) (T : Top p loose mean mg mb h₀) (hk : cs.kind = .function)
  (hdp : dp + 60 < recursionLimit) (hu : un + 150 < cLine) (htk : 0 < s.toks) (hA : oA.IsDictOf (PySem.strKind PySem.Challenge.rw_bq5017_02.row.prog w) (kvOf at')) (hgood : ∀ a ∈ at', GoodA a) (hlen : at'.length ≤ 100) (hsys : (dA == sysModules) = false)
  (hall : ∀ a ∈ at', nameRes a.1 = some true) {x : Str} (hx : Txt.join (Str.ofString "") (piecesOf at') = x)
  (ret : ∀ t' h' tk', 0 < tk' → Fr h₀ L h' m → News h₀ L h' full → Q (.str x t') { s with heap := h', toks := tk' }) :
  wpAny (model PySem.Challenge.rw_bq5017_02.row.prog w) (ktrTop dp un gd cn cs L a ccd cl outer) (call (.ref 327) [.ref o, .ref dA] []) Q E s := by
  refine render_ok (at' := at') B F X (full2 N ho hd' hdA) T hk hdp hu htk ⟨_, _, _, _, _, rfl⟩ hA hgood hlen hsys (fun _ t' h' tk' htk' F' N' => ?_) fun ⟨a, ha, hn⟩ => ?_
  · rw [hx]
    exact ret t' h' tk' htk' F' (fun p hp => N' p (.tail _ (.tail _ (.tail _ hp))))
  · rw [hall a ha] at hn
    cases hn
end
theorem name_id : nameRes (Str.ofString "id") = some true := by decide +kernel
theorem name_class : nameRes (Str.ofString "class") = some true := by decide +kernel
theorem app_assoc (x y z : Str) : (x ++ y) ++ z = x ++ (y ++ z) := by
  show (⟨(x.cps ++ y.cps) ++ z.cps⟩ : Str) = ⟨x.cps ++ (y.cps ++ z.cps)⟩
  rw [Array.append_assoc]
theorem rep_len (x y z : Str) (hz : z.length ≤ 6) : (Txt.replace x y z).length ≤ 7 * x.length + 6 := by
  have h1 := len_replace x y z
  have h2 : (x.length + 1) * z.length ≤ (x.length + 1) * 6 := Nat.mul_le_mul_left _ hz
  omega
theorem escF_len (x : Str) : (escF x).length ≤ 2401 * x.length + 2400 := by
  unfold escF
  have h1 := rep_len x (Str.ofString "&") (Str.ofString "&amp;") (by decide)
  have h2 := rep_len (Txt.replace x (Str.ofString "&") (Str.ofString "&amp;")) (Str.ofString "<") (Str.ofString "&lt;") (by decide)
  have h3 := rep_len (Txt.replace (Txt.replace x (Str.ofString "&") (Str.ofString "&amp;")) (Str.ofString "<") (Str.ofString "&lt;")) (Str.ofString ">") (Str.ofString "&gt;") (by decide)
  have h4 := rep_len (Txt.replace (Txt.replace (Txt.replace x (Str.ofString "&") (Str.ofString "&amp;")) (Str.ofString "<") (Str.ofString "&lt;")) (Str.ofString ">") (Str.ofString "&gt;")) (Str.ofString "\"") (Str.ofString "&quot;") (by decide)
  omega
theorem strEq {a b : Str} (h : a.cps.toList = b.cps.toList) : a = b := by
  obtain ⟨x⟩ := a
  obtain ⟨y⟩ := b
  exact congrArg Str.mk (Array.toList_inj.mp h)
theorem toL_app (x y : Str) : (x ++ y).cps.toList = x.cps.toList ++ y.cps.toList := Array.toList_append ..
theorem str_ret {a b : Str} {t : Tok} {s : Shared} {Q : Value → Shared → Prop} (h : a = b) (k : Q (.str b t) s) : Q (.str a t) s := h ▸ k
theorem join_one (y : Str) : Txt.join (Str.ofString "") [y] = y := rfl
theorem join_nil : Txt.join (Str.ofString "") [] = Str.ofString "" := rfl
theorem one_piece {n y : Str} {v : Value} : Txt.join (Str.ofString "") (piecesOf [(n, v, .txt y)]) = Str.ofString " " ++ n ++ Str.ofString "=\"" ++ y ++ Str.ofString "\"" := join_one _
theorem good_one {n y : Str} {v : Value} (hn : nameRes n = some true) (hl : n.length ≤ 1000) (hv : VRel v (.txt y)) : ∀ a ∈ ([(n, v, .txt y)] : List At), GoodA a := fun a ha => by
  rw [List.mem_singleton.mp ha]
  exact ⟨hl, .inl hn, hv⟩
theorem all_one {n y : Str} {v : Value} (hn : nameRes n = some true) : ∀ a ∈ ([(n, v, .txt y)] : List At), nameRes a.1 = some true := fun a ha => by
  rw [List.mem_singleton.mp ha]
  exact hn
end Mine
end
section
theorem Mine.start30 : True := by w_top off; trivial
open PySem PySem.W PyProof.Rows PySem.Calls PySem.Spec
set_option maxRecDepth 100000
set_option maxHeartbeats 8000000
set_option linter.unusedVariables false
local macro_rules | `(tactic| k_room) => `(tactic| ktr_room)
local macro_rules | `(tactic| k_all) => `(tactic| first | assumption | exact Mine.neAll (by assumption))
local macro_rules | `(tactic| k_lt $h:ident) => `(tactic| (replace $h := allLt_of $h; simp only [AllLt, and_true] at $h:ident; (repeat (have lx := And.left $h; replace $h := And.right $h))))
local macro_rules | `(tactic| ktr_enter) => `(tactic| (refine' code_def ?k1 ?k2 ?k3 ?k4 ?k5 ?kA ?kF ?kK ?k6 ?k7 ?k8 ?k9 ?kB ?_ ?c2 ?c3 ?c4 ?c5; (case kA => exact rfl); (case kF => exact rfl); (case kK => first | exact rfl | assumption); (case k1 => k_asm); (case k2 => k_asm); (case k3 => k_asm); (case k4 => k_asm); (case k5 => k_asm); (case k6 => k_is); (case k7 => k_is); (case k8 => ktr_room); (case k9 => first | exact BindsTo.of_eq rfl | exact binds_K (by k_in) rfl (by k_is) rfl rfl rfl); (case c5 => decide); (case kB => exact locs rfl); (case c2 => exact rfl); (case c3 => exact rfl); (case c4 => exact rfl); k_whole; intro g' L' h' FG' F' N' B' X' T'; (try dsimp only); (try k_lift B'); (try k_fold)))
local macro_rules | `(tactic| walk_at "call ref") => `(tactic| (k_here; k_dflt (
  (refine' call_cls ?k1 ?k2 ?k3 ?k4 ?k5 ?k6 ?_; (case k1 => k_asm); (case k2 => k_asm); (case k3 => k_asm); (case k4 => k_is); (case k5 => k_is); (case k6 => k_is); intro x' d' h' F' N' l1 l2; (try k_lt l1); (try k_lt2 l2); 
   (refine' ks_code_super ?k1 ?k2 ?k3 ?k4 ?k5 ?kA ?kF ?kK ?k6 ?k7 ?k8 ?k9 ?kB ?_ ?c1 ?c2 ?c3 ?c4; (case kA => exact rfl); (case kF => exact rfl); (case kK => first | exact rfl | assumption); (case k1 => k_asm); (case k2 => k_asm); (case k3 => k_asm); (case k4 => k_asm); (case k5 => k_asm); (case k6 => k_is); (case k7 => k_is); (case k8 => ktr_room); (case k9 => first | exact BindsTo.of_eq rfl | exact binds_K (by k_in) rfl (by k_is) rfl rfl rfl); (case kB => exact locs rfl); (case c1 => decide); (case c2 => exact rfl); (case c3 => exact rfl); (case c4 => exact rfl); intro g' L' h' FG' F' N' B' X' T' l1; (try k_lt l1); (try dsimp only); (try k_lift B'))))))
local macro_rules | `(tactic| walk_at "eval Name") => `(tactic| (k_here; k_dflt (refine' nameX_B ?F ?X ?T ?e ?v ?n ?_ ?a ?b; (case F => k_asm); (case X => k_asm); (case T => k_asm); (case a => rfl); (case b => rfl); (case e => k_is); (case v => first | boot_by_name | kernel_rfl); (case n => decide); k_whole)))
local macro_rules | `(tactic| walk_at "call type:super") => `(tactic| (k_here; k_dflt (refine' Mine.super2 ?F ?X ?N ?I ?c ?d ?_; (case F => k_asm); (case X => k_asm); (case N => k_asm); (case I => k_inst); (case c => k_is); (case d => k_is);  intro so' h' F' N' l1; (try k_lt l1))))

local macro_rules | `(tactic| walk_at "ite") => `(tactic| (first | refine ite_neg (by decide) ?_ | refine ite_pos (by decide) ?_ | refine ite_neg (by decide +kernel) ?_ | refine ite_pos (by decide +kernel) ?_))
local macro_rules | `(tactic| walk_at "forall") => `(tactic| (k_here; intro htk; (try dsimp only at htk); (try dsimp only)))
local macro_rules | `(tactic| walk_at "execs cons") => `(tactic| (k_here; k_dflt (refine' Mine.execs_cons_T ?h ?_; (case h => first | assumption | ((try dsimp only); omega)))))
local macro_rules | `(tactic| walk_at "execs cons") => `(tactic| (k_here; (fail_if_success (refine' Mine.gen_toks (by with_reducible assumption) ?_)); (try dsimp only); refine' Mine.gen_toks (by omega) ?_; intro tk htk))
local macro_rules | `(tactic| walk_at "execs nil") => `(tactic| (k_here; (fail_if_success (refine' Mine.gen_toks (by with_reducible assumption) ?_)); (try dsimp only); refine' Mine.gen_toks (by omega) ?_; intro tk htk))
local macro_rules | `(tactic| walk_at "call builtin:str.replace") => `(tactic| (k_here; k_dflt ((try dsimp only); refine' Mine.replaceT ?a ?b ?c ?d ?e ?f ?g ?_; (case a => (try dsimp only); omega); (case b => (try dsimp only); omega); (case c => (try dsimp only); omega); (case d => (try dsimp only); omega); (case e => decide); (case f => omega); (case g => decide); intro t' k' hk' hl')))
local macro_rules | `(tactic| walk_at "binaryOp Add str str") => `(tactic| (k_here; (with_reducible show wpAny _ _ (binaryOp Operator.Add (Value.str _ _) (Value.str _ _)) _ _ _); k_dflt (refine' Mine.addT ?h ?hsz ?_; (case h => first | assumption | ((try dsimp only); omega)); (case hsz => size_fits)); intro t' k' hk' hl'))
local macro_rules | `(tactic| walk_at "own k_con") => `(tactic| (first | k_asm | k_in | assumption | exact rfl | ((try dsimp only); omega)))
local macro_rules | `(tactic| walk_at "call ref") => `(tactic| (k_here; (with_reducible show wpAny _ _ (call (Value.ref 257) _ _) _ _ _); k_dflt (refine' Mine.unescape_ok ?B ?F ?X ?N ?T ?hk ?hdp ?hu ?htk ?hx ?hs ?_; (case B => k_asm); (case F => k_asm); (case X => k_in); (case N => k_asm); (case T => k_asm); (case hk => exact rfl); (case hdp => (try simp only [depth_deeper]); (try dsimp only [ktrTop]); omega); (case hu => (try simp only [Around.deeper_units]); (try dsimp only [ktrTop]); omega); (case htk => (try dsimp only); omega); (case hx => assumption); (case hs => assumption); intro t' h' tk' htk' F' N')))
local macro_rules | `(tactic| walk_at "call ref") => `(tactic| (k_here; (with_reducible show wpAny _ _ (call (Value.ref 238) _ _) _ _ _); k_dflt (refine' Mine.escape_ok ?B ?F ?X ?N ?T ?hk ?hdp ?hu ?htk ?hx ?_; (case B => k_asm); (case F => k_asm); (case X => k_in); (case N => k_asm); (case T => k_asm); (case hk => exact rfl); (case hdp => (try simp only [depth_deeper]); (try dsimp only [ktrTop]); omega); (case hu => (try simp only [Around.deeper_units]); (try dsimp only [ktrTop]); omega); (case htk => (try dsimp only); omega); (case hx => assumption); intro t' h' tk' htk' F' N')))

local macro_rules | `(tactic| walk_at "ite") => `(tactic| first | refine Mine.iteT (by kernel_rfl!) ?_ | refine Mine.iteF (by kernel_rfl!) ?_)
local macro_rules | `(tactic| walk_at "callWith ref") => `(tactic| (k_here; k_dflt (refine' Mine.callWith_kwN ?X ?F ?N ?hxv ?hkv ?hq ?hf ?hka ?hd ?lo ?z ?_; (case X => k_in); (case F => k_asm); (case N => k_asm); (case hxv => exact rfl); (case hkv => exact rfl); (case hq => k_mem); (case hf => k_is); (case hka => k_mem); (case hd => assumption); (case lo => assumption); (case z => rw [sizeLine_eq]; exact Nat.le_of_ble_eq_true (by with_unfolding_all rfl)); intro D' o' h' F' N' l1; (try k_lt l1))))
local macro_rules | `(tactic| walk_at "truthy str") => `(tactic| (k_here; k_dflt (refine' Mine.truthyS ?a ?b ?_; (case a => assumption); (case b => omega))))
local macro_rules | `(tactic| walk_at "call ref") => `(tactic| (k_here; (with_reducible show wpAny _ _ (call (Value.ref 327) _ _) _ _ _); refine Mine.Held.out ?_))
namespace Mine
section
variable {w : World} {p : Program} {loose : List Str} {mean : ExcName → Option Value} {mg mb : Str → Option Value}
  {dp un : Nat} {gd : Option (List Code)} {cn : Str} {cs : Scope} {a : Addr} {ccd : Value} {cl : List (Str × Addr)} {outer : List Env} {A₀ : Around} {base h₀ : Heap} {L : Addr} {m : Str → Option Value} {s : Shared} {Q E : Value → Shared → Prop} {news : List (Addr × Obj)}


theorem tok_head {o d k ka st : Addr} {ob oa : Obj} {dv : Value} {t2 t4 t5 t6 t7 t8 t9 : Tok} {md : Addr} {x y z yw : Str} (B : Below A₀ base outer h₀) (F : Fr h₀ L s.heap m) (X : (hd.heap_39 w.params).In h₀) (N : News h₀ L s.heap ((k, ob) :: (ka, oa) :: (o, instObj 487 d) :: (d, rdict w.params t5 t6 t7 md dv) :: news)) (T : Top p loose mean mg mb h₀) (hk : cs.kind = .function)
  (hdp : dp + 65 < recursionLimit) (hu : un + 160 < cLine) (htk : 0 < s.toks) (hx : x.length ≤ 2000) (lo : (k == sysModules) = false) (loa : (ka == sysModules) = false)
  (hyl : y.length ≤ 1000) (hyn : (!decide (y.length = 0)) = true) (hyv : ∀ t, VRel (.str y t) (.txt yw))
  (hd0 : ob.IsDictOf (strKind PySem.Challenge.rw_bq5017_02.row.prog w) [(Str.ofString "type", .str (Str.ofString "heading") t2), (Str.ofString "raw", .str x t4), (Str.ofString "attrs", .ref ka)])
  (hda : oa.IsDictOf (strKind PySem.Challenge.rw_bq5017_02.row.prog w) [(Str.ofString "level", .int 3 t8), (Str.ofString "id", .str y t9)])
  (hfa : PyProof.V.FlatPairs PyData.str [(Str.ofString "level", .int 3 t8), (Str.ofString "id", .str y t9)] [(.str (Str.ofString "level"), .int 3), (.str (Str.ofString "id"), .str y)])
  (ret : ∀ t' h' tk', 0 < tk' → Fr h₀ L h' m → News h₀ L h' ((k, ob) :: (ka, oa) :: (o, instObj 487 d) :: (d, rdict w.params t5 t6 t7 md dv) :: news) → Q (.str (Str.ofString "<h3 id=\"" ++ yw ++ Str.ofString "\">" ++ x ++ Str.ofString "</h3>\n") t') { s with heap := h', toks := tk' }) :
  wpAny (model PySem.Challenge.rw_bq5017_02.row.prog w) (ktrTop dp un gd cn cs L a ccd cl outer) (call (.ref 341) [.ref o, .ref k, .ref st] []) Q E s := by
  revert X
  k_fill
  intro X
  refine wpAny_call ?_
  k_dflt ktr_enter
  k_steps
  refine ⟨?_⟩
  refine' render_told (at' := [(Str.ofString "id", .str y _, .txt yw)]) ?B ?F ?X ?N ?ho ?hd ?hdA ?T ?hk ?hdp ?hu ?htk ?hA ?hg ?hlen ?hsys ?hall one_piece ?_
  case N => k_asm
  case hA => assumption
  case ho => k_mem
  case hd => k_mem
  case hdA => k_mem
  case B => k_asm
  case F => k_asm
  case X => k_in
  case T => k_asm
  case hk => exact rfl
  case hdp => (try simp only [depth_deeper]); (try dsimp only [ktrTop]); omega
  case hu => (try simp only [Around.deeper_units]); (try dsimp only [ktrTop]); omega
  case htk => (try dsimp only); omega
  case hg => exact good_one name_id (by decide) (hyv _)
  case hlen => exact Nat.le_of_ble_eq_true rfl
  case hsys => assumption
  case hall => exact all_one name_id
  intro t' h' tk' htk' F' N'
  have hyw : yw.length ≤ 1000 := (hyv 0).1
  k_steps
  refine str_ret (strEq ?_) (ret _ _ _ ?_ (by assumption) (subL (by assumption) (by intro p hp; repeat (first | assumption | refine List.Mem.tail _ ?_))))
  · simp only [toL_app, List.append_assoc]
    kernel_rfl
  · (try dsimp only); omega
end
end Mine
end
section
local macro_rules | `(tactic| walk_at "own pad 0") => `(tactic| skip)
theorem Mine.start31 : True := by w_top off; trivial
open PySem PySem.W PyProof.Rows PySem.Calls PySem.Spec
set_option maxRecDepth 100000
set_option maxHeartbeats 8000000
set_option linter.unusedVariables false
local macro_rules | `(tactic| k_room) => `(tactic| ktr_room)
local macro_rules | `(tactic| k_all) => `(tactic| first | assumption | exact Mine.neAll (by assumption))
local macro_rules | `(tactic| k_lt $h:ident) => `(tactic| (replace $h := allLt_of $h; simp only [AllLt, and_true] at $h:ident; (repeat (have lx := And.left $h; replace $h := And.right $h))))
local macro_rules | `(tactic| ktr_enter) => `(tactic| (refine' code_def ?k1 ?k2 ?k3 ?k4 ?k5 ?kA ?kF ?kK ?k6 ?k7 ?k8 ?k9 ?kB ?_ ?c2 ?c3 ?c4 ?c5; (case kA => exact rfl); (case kF => exact rfl); (case kK => first | exact rfl | assumption); (case k1 => k_asm); (case k2 => k_asm); (case k3 => k_asm); (case k4 => k_asm); (case k5 => k_asm); (case k6 => k_is); (case k7 => k_is); (case k8 => ktr_room); (case k9 => first | exact BindsTo.of_eq rfl | exact binds_K (by k_in) rfl (by k_is) rfl rfl rfl); (case c5 => decide); (case kB => exact locs rfl); (case c2 => exact rfl); (case c3 => exact rfl); (case c4 => exact rfl); k_whole; intro g' L' h' FG' F' N' B' X' T'; (try dsimp only); (try k_lift B'); (try k_fold)))
local macro_rules | `(tactic| walk_at "call ref") => `(tactic| (k_here; k_dflt (
  (refine' call_cls ?k1 ?k2 ?k3 ?k4 ?k5 ?k6 ?_; (case k1 => k_asm); (case k2 => k_asm); (case k3 => k_asm); (case k4 => k_is); (case k5 => k_is); (case k6 => k_is); intro x' d' h' F' N' l1 l2; (try k_lt l1); (try k_lt2 l2); 
   (refine' ks_code_super ?k1 ?k2 ?k3 ?k4 ?k5 ?kA ?kF ?kK ?k6 ?k7 ?k8 ?k9 ?kB ?_ ?c1 ?c2 ?c3 ?c4; (case kA => exact rfl); (case kF => exact rfl); (case kK => first | exact rfl | assumption); (case k1 => k_asm); (case k2 => k_asm); (case k3 => k_asm); (case k4 => k_asm); (case k5 => k_asm); (case k6 => k_is); (case k7 => k_is); (case k8 => ktr_room); (case k9 => first | exact BindsTo.of_eq rfl | exact binds_K (by k_in) rfl (by k_is) rfl rfl rfl); (case kB => exact locs rfl); (case c1 => decide); (case c2 => exact rfl); (case c3 => exact rfl); (case c4 => exact rfl); intro g' L' h' FG' F' N' B' X' T' l1; (try k_lt l1); (try dsimp only); (try k_lift B'))))))
local macro_rules | `(tactic| walk_at "eval Name") => `(tactic| (k_here; k_dflt (refine' nameX_B ?F ?X ?T ?e ?v ?n ?_ ?a ?b; (case F => k_asm); (case X => k_asm); (case T => k_asm); (case a => rfl); (case b => rfl); (case e => k_is); (case v => first | boot_by_name | kernel_rfl); (case n => decide); k_whole)))
local macro_rules | `(tactic| walk_at "call type:super") => `(tactic| (k_here; k_dflt (refine' Mine.super2 ?F ?X ?N ?I ?c ?d ?_; (case F => k_asm); (case X => k_asm); (case N => k_asm); (case I => k_inst); (case c => k_is); (case d => k_is);  intro so' h' F' N' l1; (try k_lt l1))))

local macro_rules | `(tactic| walk_at "ite") => `(tactic| (first | refine ite_neg (by decide) ?_ | refine ite_pos (by decide) ?_ | refine ite_neg (by decide +kernel) ?_ | refine ite_pos (by decide +kernel) ?_))
local macro_rules | `(tactic| walk_at "forall") => `(tactic| (k_here; intro htk; (try dsimp only at htk); (try dsimp only)))
local macro_rules | `(tactic| walk_at "execs cons") => `(tactic| (k_here; k_dflt (refine' Mine.execs_cons_T ?h ?_; (case h => first | assumption | ((try dsimp only); omega)))))
local macro_rules | `(tactic| walk_at "execs cons") => `(tactic| (k_here; (fail_if_success (refine' Mine.gen_toks (by with_reducible assumption) ?_)); (try dsimp only); refine' Mine.gen_toks (by omega) ?_; intro tk htk))
local macro_rules | `(tactic| walk_at "execs nil") => `(tactic| (k_here; (fail_if_success (refine' Mine.gen_toks (by with_reducible assumption) ?_)); (try dsimp only); refine' Mine.gen_toks (by omega) ?_; intro tk htk))
local macro_rules | `(tactic| walk_at "call builtin:str.replace") => `(tactic| (k_here; k_dflt ((try dsimp only); refine' Mine.replaceT ?a ?b ?c ?d ?e ?f ?g ?_; (case a => (try dsimp only); omega); (case b => (try dsimp only); omega); (case c => (try dsimp only); omega); (case d => (try dsimp only); omega); (case e => decide); (case f => omega); (case g => decide); intro t' k' hk' hl')))
local macro_rules | `(tactic| walk_at "binaryOp Add str str") => `(tactic| (k_here; (with_reducible show wpAny _ _ (binaryOp Operator.Add (Value.str _ _) (Value.str _ _)) _ _ _); k_dflt (refine' Mine.addT ?h ?hsz ?_; (case h => first | assumption | ((try dsimp only); omega)); (case hsz => size_fits)); intro t' k' hk' hl'))
local macro_rules | `(tactic| walk_at "own k_con") => `(tactic| (first | k_asm | k_in | assumption | exact rfl | ((try dsimp only); omega)))
local macro_rules | `(tactic| walk_at "call ref") => `(tactic| (k_here; (with_reducible show wpAny _ _ (call (Value.ref 257) _ _) _ _ _); k_dflt (refine' Mine.unescape_ok ?B ?F ?X ?N ?T ?hk ?hdp ?hu ?htk ?hx ?hs ?_; (case B => k_asm); (case F => k_asm); (case X => k_in); (case N => k_asm); (case T => k_asm); (case hk => exact rfl); (case hdp => (try simp only [depth_deeper]); (try dsimp only [ktrTop]); omega); (case hu => (try simp only [Around.deeper_units]); (try dsimp only [ktrTop]); omega); (case htk => (try dsimp only); omega); (case hx => assumption); (case hs => assumption); intro t' h' tk' htk' F' N')))
local macro_rules | `(tactic| walk_at "call ref") => `(tactic| (k_here; (with_reducible show wpAny _ _ (call (Value.ref 238) _ _) _ _ _); k_dflt (refine' Mine.escape_ok ?B ?F ?X ?N ?T ?hk ?hdp ?hu ?htk ?hx ?_; (case B => k_asm); (case F => k_asm); (case X => k_in); (case N => k_asm); (case T => k_asm); (case hk => exact rfl); (case hdp => (try simp only [depth_deeper]); (try dsimp only [ktrTop]); omega); (case hu => (try simp only [Around.deeper_units]); (try dsimp only [ktrTop]); omega); (case htk => (try dsimp only); omega); (case hx => assumption); intro t' h' tk' htk' F' N')))

local macro_rules | `(tactic| walk_at "ite") => `(tactic| first | refine Mine.iteT (by kernel_rfl!) ?_ | refine Mine.iteF (by kernel_rfl!) ?_)
local macro_rules | `(tactic| walk_at "callWith ref") => `(tactic| (k_here; k_dflt (refine' Mine.callWith_kwN ?X ?F ?N ?hxv ?hkv ?hq ?hf ?hka ?hd ?lo ?z ?_; (case X => k_in); (case F => k_asm); (case N => k_asm); (case hxv => exact rfl); (case hkv => exact rfl); (case hq => k_mem); (case hf => k_is); (case hka => k_mem); (case hd => assumption); (case lo => assumption); (case z => rw [sizeLine_eq]; exact Nat.le_of_ble_eq_true (by with_unfolding_all rfl)); intro D' o' h' F' N' l1; (try k_lt l1))))
local macro_rules | `(tactic| walk_at "truthy str") => `(tactic| (k_here; k_dflt (refine' Mine.truthyS ?a ?b ?_; (case a => assumption); (case b => omega))))
local macro_rules | `(tactic| walk_at "call ref") => `(tactic| (k_here; (with_reducible show wpAny _ _ (call (Value.ref 327) _ _) _ _ _); refine Mine.Held.out ?_))
namespace Mine
section
variable {w : World} {p : Program} {loose : List Str} {mean : ExcName → Option Value} {mg mb : Str → Option Value}
  {dp un : Nat} {gd : Option (List Code)} {cn : Str} {cs : Scope} {a : Addr} {ccd : Value} {cl : List (Str × Addr)} {outer : List Env} {A₀ : Around} {base h₀ : Heap} {L : Addr} {m : Str → Option Value} {s : Shared} {Q E : Value → Shared → Prop} {news : List (Addr × Obj)}


theorem tok_head0 {o d k ka st : Addr} {ob oa : Obj} {dv : Value} {t2 t4 t5 t6 t7 t8 t9 : Tok} {md : Addr} {x y : Str} (B : Below A₀ base outer h₀) (F : Fr h₀ L s.heap m) (X : (hd.heap_39 w.params).In h₀) (N : News h₀ L s.heap ((k, ob) :: (ka, oa) :: (o, instObj 487 d) :: (d, rdict w.params t5 t6 t7 md dv) :: news)) (T : Top p loose mean mg mb h₀) (hk : cs.kind = .function)
  (hdp : dp + 65 < recursionLimit) (hu : un + 160 < cLine) (htk : 0 < s.toks) (hx : x.length ≤ 2000) (lo : (k == sysModules) = false) (loa : (ka == sysModules) = false)
  (hyl : y.length ≤ 1000) (hyn : (!decide (y.length = 0)) = false)
  (hd0 : ob.IsDictOf (strKind PySem.Challenge.rw_bq5017_02.row.prog w) [(Str.ofString "type", .str (Str.ofString "heading") t2), (Str.ofString "raw", .str x t4), (Str.ofString "attrs", .ref ka)])
  (hda : oa.IsDictOf (strKind PySem.Challenge.rw_bq5017_02.row.prog w) [(Str.ofString "level", .int 3 t8), (Str.ofString "id", .str y t9)])
  (hfa : PyProof.V.FlatPairs PyData.str [(Str.ofString "level", .int 3 t8), (Str.ofString "id", .str y t9)] [(.str (Str.ofString "level"), .int 3), (.str (Str.ofString "id"), .str y)])
  (ret : ∀ t' h' tk', 0 < tk' → Fr h₀ L h' m → News h₀ L h' ((k, ob) :: (ka, oa) :: (o, instObj 487 d) :: (d, rdict w.params t5 t6 t7 md dv) :: news) → Q (.str (Str.ofString "<h3>" ++ x ++ Str.ofString "</h3>\n") t') { s with heap := h', toks := tk' }) :
  wpAny (model PySem.Challenge.rw_bq5017_02.row.prog w) (ktrTop dp un gd cn cs L a ccd cl outer) (call (.ref 341) [.ref o, .ref k, .ref st] []) Q E s := by
  revert X
  k_fill
  intro X
  refine wpAny_call ?_
  k_dflt ktr_enter
  k_steps
  refine str_ret (strEq ?_) (ret _ _ _ ?_ (by assumption) (subL (by assumption) (by intro p hp; repeat (first | assumption | refine List.Mem.tail _ ?_))))
  · simp only [toL_app, List.append_assoc]
    kernel_rfl
  · (try dsimp only); omega
end
end Mine
end
section
theorem Mine.start32 : True := by w_top off; trivial
open PySem PySem.W PyProof.Rows PySem.Calls PySem.Spec
set_option maxRecDepth 100000
set_option maxHeartbeats 8000000
set_option linter.unusedVariables false
local macro_rules | `(tactic| k_room) => `(tactic| ktr_room)
local macro_rules | `(tactic| k_all) => `(tactic| first | assumption | exact Mine.neAll (by assumption))
local macro_rules | `(tactic| k_lt $h:ident) => `(tactic| (replace $h := allLt_of $h; simp only [AllLt, and_true] at $h:ident; (repeat (have lx := And.left $h; replace $h := And.right $h))))
local macro_rules | `(tactic| ktr_enter) => `(tactic| (refine' code_def ?k1 ?k2 ?k3 ?k4 ?k5 ?kA ?kF ?kK ?k6 ?k7 ?k8 ?k9 ?kB ?_ ?c2 ?c3 ?c4 ?c5; (case kA => exact rfl); (case kF => exact rfl); (case kK => first | exact rfl | assumption); (case k1 => k_asm); (case k2 => k_asm); (case k3 => k_asm); (case k4 => k_asm); (case k5 => k_asm); (case k6 => k_is); (case k7 => k_is); (case k8 => ktr_room); (case k9 => first | exact BindsTo.of_eq rfl | exact binds_K (by k_in) rfl (by k_is) rfl rfl rfl); (case c5 => decide); (case kB => exact locs rfl); (case c2 => exact rfl); (case c3 => exact rfl); (case c4 => exact rfl); k_whole; intro g' L' h' FG' F' N' B' X' T'; (try dsimp only); (try k_lift B'); (try k_fold)))
local macro_rules | `(tactic| walk_at "call ref") => `(tactic| (k_here; k_dflt (
  (refine' call_cls ?k1 ?k2 ?k3 ?k4 ?k5 ?k6 ?_; (case k1 => k_asm); (case k2 => k_asm); (case k3 => k_asm); (case k4 => k_is); (case k5 => k_is); (case k6 => k_is); intro x' d' h' F' N' l1 l2; (try k_lt l1); (try k_lt2 l2); 
   (refine' ks_code_super ?k1 ?k2 ?k3 ?k4 ?k5 ?kA ?kF ?kK ?k6 ?k7 ?k8 ?k9 ?kB ?_ ?c1 ?c2 ?c3 ?c4; (case kA => exact rfl); (case kF => exact rfl); (case kK => first | exact rfl | assumption); (case k1 => k_asm); (case k2 => k_asm); (case k3 => k_asm); (case k4 => k_asm); (case k5 => k_asm); (case k6 => k_is); (case k7 => k_is); (case k8 => ktr_room); (case k9 => first | exact BindsTo.of_eq rfl | exact binds_K (by k_in) rfl (by k_is) rfl rfl rfl); (case kB => exact locs rfl); (case c1 => decide); (case c2 => exact rfl); (case c3 => exact rfl); (case c4 => exact rfl); intro g' L' h' FG' F' N' B' X' T' l1; (try k_lt l1); (try dsimp only); (try k_lift B'))))))
local macro_rules | `(tactic| walk_at "eval Name") => `(tactic| (k_here; k_dflt (refine' nameX_B ?F ?X ?T ?e ?v ?n ?_ ?a ?b; (case F => k_asm); (case X => k_asm); (case T => k_asm); (case a => rfl); (case b => rfl); (case e => k_is); (case v => first | boot_by_name | kernel_rfl); (case n => decide); k_whole)))
local macro_rules | `(tactic| walk_at "call type:super") => `(tactic| (k_here; k_dflt (refine' Mine.super2 ?F ?X ?N ?I ?c ?d ?_; (case F => k_asm); (case X => k_asm); (case N => k_asm); (case I => k_inst); (case c => k_is); (case d => k_is);  intro so' h' F' N' l1; (try k_lt l1))))

local macro_rules | `(tactic| walk_at "ite") => `(tactic| (first | refine ite_neg (by decide) ?_ | refine ite_pos (by decide) ?_ | refine ite_neg (by decide +kernel) ?_ | refine ite_pos (by decide +kernel) ?_))
local macro_rules | `(tactic| walk_at "forall") => `(tactic| (k_here; intro htk; (try dsimp only at htk); (try dsimp only)))
local macro_rules | `(tactic| walk_at "execs cons") => `(tactic| (k_here; k_dflt (refine' Mine.execs_cons_T ?h ?_; (case h => first | assumption | ((try dsimp only); omega)))))
local macro_rules | `(tactic| walk_at "execs cons") => `(tactic| (k_here; (fail_if_success (refine' Mine.gen_toks (by with_reducible assumption) ?_)); (try dsimp only); refine' Mine.gen_toks (by omega) ?_; intro tk htk))
local macro_rules | `(tactic| walk_at "execs nil") => `(tactic| (k_here; (fail_if_success (refine' Mine.gen_toks (by with_reducible assumption) ?_)); (try dsimp only); refine' Mine.gen_toks (by omega) ?_; intro tk htk))
local macro_rules | `(tactic| walk_at "call builtin:str.replace") => `(tactic| (k_here; k_dflt ((try dsimp only); refine' Mine.replaceT ?a ?b ?c ?d ?e ?f ?g ?_; (case a => (try dsimp only); omega); (case b => (try dsimp only); omega); (case c => (try dsimp only); omega); (case d => (try dsimp only); omega); (case e => decide); (case f => omega); (case g => decide); intro t' k' hk' hl')))
local macro_rules | `(tactic| walk_at "binaryOp Add str str") => `(tactic| (k_here; (with_reducible show wpAny _ _ (binaryOp Operator.Add (Value.str _ _) (Value.str _ _)) _ _ _); k_dflt (refine' Mine.addT ?h ?hsz ?_; (case h => first | assumption | ((try dsimp only); omega)); (case hsz => size_fits)); intro t' k' hk' hl'))
local macro_rules | `(tactic| walk_at "own k_con") => `(tactic| (first | k_asm | k_in | assumption | exact rfl | ((try dsimp only); omega)))
local macro_rules | `(tactic| walk_at "call ref") => `(tactic| (k_here; (with_reducible show wpAny _ _ (call (Value.ref 257) _ _) _ _ _); k_dflt (refine' Mine.unescape_ok ?B ?F ?X ?N ?T ?hk ?hdp ?hu ?htk ?hx ?hs ?_; (case B => k_asm); (case F => k_asm); (case X => k_in); (case N => k_asm); (case T => k_asm); (case hk => exact rfl); (case hdp => (try simp only [depth_deeper]); (try dsimp only [ktrTop]); omega); (case hu => (try simp only [Around.deeper_units]); (try dsimp only [ktrTop]); omega); (case htk => (try dsimp only); omega); (case hx => assumption); (case hs => assumption); intro t' h' tk' htk' F' N')))
local macro_rules | `(tactic| walk_at "call ref") => `(tactic| (k_here; (with_reducible show wpAny _ _ (call (Value.ref 238) _ _) _ _ _); k_dflt (refine' Mine.escape_ok ?B ?F ?X ?N ?T ?hk ?hdp ?hu ?htk ?hx ?_; (case B => k_asm); (case F => k_asm); (case X => k_in); (case N => k_asm); (case T => k_asm); (case hk => exact rfl); (case hdp => (try simp only [depth_deeper]); (try dsimp only [ktrTop]); omega); (case hu => (try simp only [Around.deeper_units]); (try dsimp only [ktrTop]); omega); (case htk => (try dsimp only); omega); (case hx => assumption); intro t' h' tk' htk' F' N')))

local macro_rules | `(tactic| walk_at "ite") => `(tactic| first | refine Mine.iteT (by kernel_rfl!) ?_ | refine Mine.iteF (by kernel_rfl!) ?_)
local macro_rules | `(tactic| walk_at "callWith ref") => `(tactic| (k_here; k_dflt (refine' Mine.callWith_kwN ?X ?F ?N ?hxv ?hkv ?hq ?hf ?hka ?hd ?lo ?z ?_; (case X => k_in); (case F => k_asm); (case N => k_asm); (case hxv => exact rfl); (case hkv => exact rfl); (case hq => k_mem); (case hf => k_is); (case hka => k_mem); (case hd => assumption); (case lo => assumption); (case z => rw [sizeLine_eq]; exact Nat.le_of_ble_eq_true (by with_unfolding_all rfl)); intro D' o' h' F' N' l1; (try k_lt l1))))
local macro_rules | `(tactic| walk_at "truthy str") => `(tactic| (k_here; k_dflt (refine' Mine.truthyS ?a ?b ?_; (case a => assumption); (case b => omega))))
local macro_rules | `(tactic| walk_at "call ref") => `(tactic| (k_here; (with_reducible show wpAny _ _ (call (Value.ref 327) _ _) _ _ _); refine Mine.Held.out ?_))
namespace Mine
section
variable {w : World} {p : Program} {loose : List Str} {mean : ExcName → Option Value} {mg mb : Str → Option Value}
  {dp un : Nat} {gd : Option (List Code)} {cn : Str} {cs : Scope} {a : Addr} {ccd : Value} {cl : List (Str × Addr)} {outer : List Env} {A₀ : Around} {base h₀ : Heap} {L : Addr} {m : Str → Option Value} {s : Shared} {Q E : Value → Shared → Prop} {news : List (Addr × Obj)}


theorem tok_code0 {o d k st : Addr} {ob : Obj} {dv : Value} {t2 t4 t5 t6 t7 : Tok} {md : Addr} {x : Str} (B : Below A₀ base outer h₀) (F : Fr h₀ L s.heap m) (X : (hd.heap_39 w.params).In h₀) (N : News h₀ L s.heap ((k, ob) :: (o, instObj 487 d) :: (d, rdict w.params t5 t6 t7 md dv) :: news)) (T : Top p loose mean mg mb h₀) (hk : cs.kind = .function)
  (hdp : dp + 65 < recursionLimit) (hu : un + 160 < cLine) (htk : 0 < s.toks) (hx : x.length ≤ 2000) (lo : (k == sysModules) = false)
  (hd0 : ob.IsDictOf (strKind PySem.Challenge.rw_bq5017_02.row.prog w) [(Str.ofString "type", .str (Str.ofString "block_code") t2), (Str.ofString "raw", .str x t4)])
  (hf0 : PyProof.V.FlatPairs PyData.str [(Str.ofString "type", .str (Str.ofString "block_code") t2), (Str.ofString "raw", .str x t4)] [(.str (Str.ofString "type"), .str (Str.ofString "block_code")), (.str (Str.ofString "raw"), .str x)])
  (ret : ∀ t' h' tk', 0 < tk' → Fr h₀ L h' m → News h₀ L h' ((k, ob) :: (o, instObj 487 d) :: (d, rdict w.params t5 t6 t7 md dv) :: news) → Q (.str (Str.ofString "<pre><code>" ++ escF x ++ Str.ofString "</code></pre>\n") t') { s with heap := h', toks := tk' }) :
  wpAny (model PySem.Challenge.rw_bq5017_02.row.prog w) (ktrTop dp un gd cn cs L a ccd cl outer) (call (.ref 341) [.ref o, .ref k, .ref st] []) Q E s := by
  revert X
  k_fill
  intro X
  refine wpAny_call ?_
  k_dflt ktr_enter
  k_steps


  refine ⟨?_⟩
  refine' render_told (at' := []) ?B ?F ?X ?N ?ho ?hd ?hdA ?T ?hk ?hdp ?hu ?htk ?hA ?hg ?hlen ?hsys ?hall join_nil ?_
  case N => k_asm
  case hA => assumption
  case ho => k_mem
  case hd => k_mem
  case hdA => k_mem
  case B => k_asm
  case F => k_asm
  case X => k_in
  case T => k_asm
  case hk => exact rfl
  case hdp => (try simp only [depth_deeper]); (try dsimp only [ktrTop]); omega
  case hu => (try simp only [Around.deeper_units]); (try dsimp only [ktrTop]); omega
  case htk => (try dsimp only); omega
  case hg => exact fun a ha => (by cases ha)
  case hlen => exact Nat.le_of_ble_eq_true rfl
  case hsys => assumption
  case hall => exact fun a ha => (by cases ha)
  intro t' h' tk' htk' F' N'
  have hel := escF_len x
  k_steps
  refine str_ret (strEq ?_) (ret _ _ _ ?_ (by assumption) (subL (by assumption) (by intro p hp; repeat (first | assumption | refine List.Mem.tail _ ?_))))
  · simp only [toL_app, List.append_assoc]
    kernel_rfl
  · (try dsimp only); omega
end
end Mine
end
section
open PySem PySem.W PyProof.Rows PySem.Calls PySem.Spec
set_option maxRecDepth 100000
set_option maxHeartbeats 8000000
set_option linter.unusedVariables false
namespace Mine
open PySem.Builtin PySem.Builtin.Str
def firstWords (x : Str) : List Str := if (spaceWords x 1 == [(0, x.length)]) = true then [x] else (spaceWords x 1).map fun p => strSub x p.1 p.2
theorem split1_tree (x : Str) (t u : Tok) : «str.split» ⟨[.str x t, .none, .int 1 u], []⟩ = (do rule "str.split.whitespace"; if (true && decide (1 > 0) && (spaceWords x 1 == [(0, x.length)])) = true then (do rule "str.split.whitespace.same-object"; ret (← newList [.str x t])) else (do ret (← newList (← (spaceWords x 1).mapM fun (i, j) => mkStr (strSub x i j))))) := by
  show (do let limit ← countLimit "str.split" (some (.int 1 u)) (x.length + 1); _) = _
  rw [countLimit_int "str.split" 1 u (x.length + 1) (by decide)]
  rfl
theorem meets_split1 (x : Str) (t u : Tok) (hx : x.length ≤ sizeLine) (hn : (spaceWords x 1).length ≤ sizeLine) : Meets («str.split» ⟨[.str x t, .none, .int 1 u], []⟩) (fun A R s =>
    if (spaceWords x 1 == [(0, x.length)]) = true then listOfItself x t A R s
    else R (.ok (.ret (.ref s.heap.objs.size))) { s with toks := s.toks + (spaceWords x 1).length, heap := s.heap.push { cls := .type "list", data := .seq (strsFrom s.toks ((spaceWords x 1).map fun p => strSub x p.1 p.2)).toArray } }) := by
  refine .of_wp fun prog w A R s h => ?_
  rw [split1_tree]
  refine wpAny_bind (wpAny_rule ?_)
  revert h
  cases spaceWords x 1 == [(0, x.length)]
  · intro h
    show wpAny _ _ (do ret (← newList (← (spaceWords x 1).mapM fun (i, j) => mkStr (strSub x i j)))) _ _ s
    exact wpAny_bind (wpAny_mapM_mkStr_of (fun (p : Nat × Nat) => strSub x p.1 p.2) (fun p => Nat.le_trans (strSub_length_le ..) hx) _ _ _ (wpAny_bind (wpAny_newList (wpAny_pure ⟨_, rfl, h⟩) (by rw [strsFrom_length, List.length_map]; exact hn))))
  · intro h
    show wpAny _ _ (do rule "str.split.whitespace.same-object"; ret (← newList [.str x t])) _ _ s
    exact wpAny_bind (wpAny_rule (wpAny_bind (wpAny_newList (wpAny_pure ⟨_, rfl, h⟩) (by show 1 ≤ sizeLine; decide))))
section
variable {prog : Program} {w : World} {A : Around} {E : Value → Shared → Prop} {s : Shared} {x lang : Str} {t u : Tok} {h₀ : Heap} {L : Addr} {m : Str → Option Value} {news : List (Addr × Obj)} {Q : Value → Shared → Prop}
theorem split_first (hF : Fr h₀ L s.heap m) (hN : News h₀ L s.heap news) (hf : (firstWords x).head? = some lang) (hx : x.length ≤ 1000000) (hn : (spaceWords x 1).length ≤ 1000)
    (h : ∀ D t' rest h' tk, Fr h₀ L h' m → News h₀ L h' ((D, { cls := .type "list", data := .seq (Value.str lang t' :: rest).toArray }) :: news) → (∀ p ∈ news, p.1 < D) → Q (.ref D) { s with heap := h', toks := tk }) :
    wpAny (model prog w) A (call (.builtin "str.split") [.str x t, .none, .int 1 u]) Q E s := by
  have hl : ∀ p ∈ news, p.1 < s.heap.objs.size := fun p hp => Heap.lt_size (hN p hp).1
  have h' : ∀ l hp tk, l.map (·.1) = firstWords x → Fr h₀ L hp m → News h₀ L hp ((s.heap.objs.size, { cls := .type "list", data := .seq (strValues l).toArray }) :: news) → Q (.ref s.heap.objs.size) { s with heap := hp, toks := tk } := by
    intro l hp tk e F N
    rw [← e] at hf
    cases l with
    | nil => cases hf
    | cons a r =>
      obtain ⟨y, t'⟩ := a
      cases hf
      exact h _ t' (strValues r) hp tk F N hl
  refine call_meets PySem.F.slot_str_split (typeIs_str _ _ _) PySem.F.entry_str_split (PySem.F.args_str_split_3 _ _ _) (meets_split1 x t u (by rw [sizeLine_eq]; omega) (by rw [sizeLine_eq]; omega)) ?_
  cases hw : spaceWords x 1 == [(0, x.length)]
  · simp only [Bool.false_eq_true, if_false]
    rw [strsFrom_eq]
    exact h' (numbered s.toks _) _ _ ((numbered_texts _ _).trans (if_neg (ne_true_of_eq_false hw)).symm) (Fr.pushS hF _) (News.push hF hN _)
  · simp only [if_true]
    exact h' [(x, t)] _ s.toks (if_pos hw).symm (Fr.pushS hF _) (News.push hF hN _)
theorem item_first {value slice : PySem.Expr} {r : Addr} {v : Value} {rest : List Value} {i : Tok} {Q : Value → Shared → Prop} (N : News h₀ L s.heap news) (hm : (r, ({ cls := .type "list", data := .seq (v :: rest).toArray } : Obj)) ∈ news)
    (h : Q v s)
    (hs : subscripted slice false (.ref r) (.int 0 i) = operate [.ref r, .int 0 i] (getItem (.ref r) (.int 0 i)) := by with_unfolding_all rfl) (hg : ∀ x, letTemporaryGo value (.ref r) x = pure () := by intro _; with_unfolding_all rfl) :
    wpAny (model prog w) A (subscriptTail value slice (.ref r) (.int 0 i)) Q E s := by
  have hl : s.heap.IsList r (v :: rest).toArray := ⟨_, (N _ hm).1, rfl, _, rfl⟩
  exact subscriptTail_builtin hl.typeIs PySem.slot_list_getitem.lookup (wpAny_getItem_list hl (Int.le_refl 0) (by omega) (by simp) h) hs hg
theorem stripT (h0 : 0 < s.toks) (hsz : x.length ≤ 1000000) (h : ∀ t' k, 0 < k → (Txt.strip x).length ≤ x.length → Q (.str (Txt.strip x) t') { s with toks := k }) : wpAny (model prog w) A (call (.builtin "str.strip") [.str x t]) Q E s :=
  wpAny_with_toks (n := 1) h0 (SCL.strip (fun t' k hl hk => h t' k hk hl) (by rw [sizeLine_eq]; omega))
theorem stripCT {z : Str} (h0 : 0 < s.toks) (hsz : x.length ≤ 1000000) (h : ∀ t' k, 0 < k → (Txt.stripChars x z).length ≤ x.length → Q (.str (Txt.stripChars x z) t') { s with toks := k }) : wpAny (model prog w) A (call (.builtin "str.strip") [.str x t, .str z u]) Q E s :=
  wpAny_with_toks (n := 1) h0 (SCL.stripChars (fun t' k hl hk => h t' k hk hl) (by rw [sizeLine_eq]; omega))
end
end Mine
end
section
theorem Mine.start34 : True := by w_top off; trivial
open PySem PySem.W PyProof.Rows PySem.Calls PySem.Spec
set_option maxRecDepth 100000
set_option maxHeartbeats 8000000
set_option linter.unusedVariables false
local macro_rules | `(tactic| k_room) => `(tactic| ktr_room)
local macro_rules | `(tactic| k_all) => `(tactic| first | assumption | exact Mine.neAll (by assumption))
local macro_rules | `(tactic| k_lt $h:ident) => `(tactic| (replace $h := allLt_of $h; simp only [AllLt, and_true] at $h:ident; (repeat (have lx := And.left $h; replace $h := And.right $h))))
local macro_rules | `(tactic| ktr_enter) => `(tactic| (refine' code_def ?k1 ?k2 ?k3 ?k4 ?k5 ?kA ?kF ?kK ?k6 ?k7 ?k8 ?k9 ?kB ?_ ?c2 ?c3 ?c4 ?c5; (case kA => exact rfl); (case kF => exact rfl); (case kK => first | exact rfl | assumption); (case k1 => k_asm); (case k2 => k_asm); (case k3 => k_asm); (case k4 => k_asm); (case k5 => k_asm); (case k6 => k_is); (case k7 => k_is); (case k8 => ktr_room); (case k9 => first | exact BindsTo.of_eq rfl | exact binds_K (by k_in) rfl (by k_is) rfl rfl rfl); (case c5 => decide); (case kB => exact locs rfl); (case c2 => exact rfl); (case c3 => exact rfl); (case c4 => exact rfl); k_whole; intro g' L' h' FG' F' N' B' X' T'; (try dsimp only); (try k_lift B'); (try k_fold)))
local macro_rules | `(tactic| walk_at "call ref") => `(tactic| (k_here; k_dflt (
  (refine' call_cls ?k1 ?k2 ?k3 ?k4 ?k5 ?k6 ?_; (case k1 => k_asm); (case k2 => k_asm); (case k3 => k_asm); (case k4 => k_is); (case k5 => k_is); (case k6 => k_is); intro x' d' h' F' N' l1 l2; (try k_lt l1); (try k_lt2 l2); 
   (refine' ks_code_super ?k1 ?k2 ?k3 ?k4 ?k5 ?kA ?kF ?kK ?k6 ?k7 ?k8 ?k9 ?kB ?_ ?c1 ?c2 ?c3 ?c4; (case kA => exact rfl); (case kF => exact rfl); (case kK => first | exact rfl | assumption); (case k1 => k_asm); (case k2 => k_asm); (case k3 => k_asm); (case k4 => k_asm); (case k5 => k_asm); (case k6 => k_is); (case k7 => k_is); (case k8 => ktr_room); (case k9 => first | exact BindsTo.of_eq rfl | exact binds_K (by k_in) rfl (by k_is) rfl rfl rfl); (case kB => exact locs rfl); (case c1 => decide); (case c2 => exact rfl); (case c3 => exact rfl); (case c4 => exact rfl); intro g' L' h' FG' F' N' B' X' T' l1; (try k_lt l1); (try dsimp only); (try k_lift B'))))))
local macro_rules | `(tactic| walk_at "eval Name") => `(tactic| (k_here; k_dflt (refine' nameX_B ?F ?X ?T ?e ?v ?n ?_ ?a ?b; (case F => k_asm); (case X => k_asm); (case T => k_asm); (case a => rfl); (case b => rfl); (case e => k_is); (case v => first | boot_by_name | kernel_rfl); (case n => decide); k_whole)))
local macro_rules | `(tactic| walk_at "call type:super") => `(tactic| (k_here; k_dflt (refine' Mine.super2 ?F ?X ?N ?I ?c ?d ?_; (case F => k_asm); (case X => k_asm); (case N => k_asm); (case I => k_inst); (case c => k_is); (case d => k_is);  intro so' h' F' N' l1; (try k_lt l1))))

local macro_rules | `(tactic| walk_at "ite") => `(tactic| (first | refine ite_neg (by decide) ?_ | refine ite_pos (by decide) ?_ | refine ite_neg (by decide +kernel) ?_ | refine ite_pos (by decide +kernel) ?_))
local macro_rules | `(tactic| walk_at "forall") => `(tactic| (k_here; intro htk; (try dsimp only at htk); (try dsimp only)))
local macro_rules | `(tactic| walk_at "execs cons") => `(tactic| (k_here; k_dflt (refine' Mine.execs_cons_T ?h ?_; (case h => first | assumption | ((try dsimp only); omega)))))
local macro_rules | `(tactic| walk_at "execs cons") => `(tactic| (k_here; (fail_if_success (refine' Mine.gen_toks (by with_reducible assumption) ?_)); (try dsimp only); refine' Mine.gen_toks (by omega) ?_; intro tk htk))
local macro_rules | `(tactic| walk_at "execs nil") => `(tactic| (k_here; (fail_if_success (refine' Mine.gen_toks (by with_reducible assumption) ?_)); (try dsimp only); refine' Mine.gen_toks (by omega) ?_; intro tk htk))
local macro_rules | `(tactic| walk_at "call builtin:str.replace") => `(tactic| (k_here; k_dflt ((try dsimp only); refine' Mine.replaceT ?a ?b ?c ?d ?e ?f ?g ?_; (case a => (try dsimp only); omega); (case b => (try dsimp only); omega); (case c => (try dsimp only); omega); (case d => (try dsimp only); omega); (case e => decide); (case f => omega); (case g => decide); intro t' k' hk' hl')))
local macro_rules | `(tactic| walk_at "binaryOp Add str str") => `(tactic| (k_here; (with_reducible show wpAny _ _ (binaryOp Operator.Add (Value.str _ _) (Value.str _ _)) _ _ _); k_dflt (refine' Mine.addT ?h ?hsz ?_; (case h => first | assumption | ((try dsimp only); omega)); (case hsz => size_fits)); intro t' k' hk' hl'))
local macro_rules | `(tactic| walk_at "own k_con") => `(tactic| (first | k_asm | k_in | assumption | exact rfl | ((try dsimp only); omega)))
local macro_rules | `(tactic| walk_at "call ref") => `(tactic| (k_here; (with_reducible show wpAny _ _ (call (Value.ref 257) _ _) _ _ _); k_dflt (refine' Mine.unescape_ok ?B ?F ?X ?N ?T ?hk ?hdp ?hu ?htk ?hx ?hs ?_; (case B => k_asm); (case F => k_asm); (case X => k_in); (case N => k_asm); (case T => k_asm); (case hk => exact rfl); (case hdp => (try simp only [depth_deeper]); (try dsimp only [ktrTop]); omega); (case hu => (try simp only [Around.deeper_units]); (try dsimp only [ktrTop]); omega); (case htk => (try dsimp only); omega); (case hx => assumption); (case hs => assumption); intro t' h' tk' htk' F' N')))
local macro_rules | `(tactic| walk_at "call ref") => `(tactic| (k_here; (with_reducible show wpAny _ _ (call (Value.ref 238) _ _) _ _ _); k_dflt (refine' Mine.escape_ok ?B ?F ?X ?N ?T ?hk ?hdp ?hu ?htk ?hx ?_; (case B => k_asm); (case F => k_asm); (case X => k_in); (case N => k_asm); (case T => k_asm); (case hk => exact rfl); (case hdp => (try simp only [depth_deeper]); (try dsimp only [ktrTop]); omega); (case hu => (try simp only [Around.deeper_units]); (try dsimp only [ktrTop]); omega); (case htk => (try dsimp only); omega); (case hx => assumption); intro t' h' tk' htk' F' N')))

local macro_rules | `(tactic| walk_at "ite") => `(tactic| first | refine Mine.iteT (by kernel_rfl!) ?_ | refine Mine.iteF (by kernel_rfl!) ?_)
local macro_rules | `(tactic| walk_at "callWith ref") => `(tactic| (k_here; k_dflt (refine' Mine.callWith_kwN ?X ?F ?N ?hxv ?hkv ?hq ?hf ?hka ?hd ?lo ?z ?_; (case X => k_in); (case F => k_asm); (case N => k_asm); (case hxv => exact rfl); (case hkv => exact rfl); (case hq => k_mem); (case hf => k_is); (case hka => k_mem); (case hd => assumption); (case lo => assumption); (case z => rw [sizeLine_eq]; exact Nat.le_of_ble_eq_true (by with_unfolding_all rfl)); intro D' o' h' F' N' l1; (try k_lt l1))))
local macro_rules | `(tactic| walk_at "truthy str") => `(tactic| (k_here; k_dflt (refine' Mine.truthyS ?a ?b ?_; (case a => assumption); (case b => omega))))
local macro_rules | `(tactic| walk_at "call ref") => `(tactic| (k_here; (with_reducible show wpAny _ _ (call (Value.ref 327) _ _) _ _ _); refine Mine.Held.out ?_))
local macro_rules | `(tactic| walk_at "call ref") => `(tactic| (k_here; (with_reducible show wpAny _ _ (call (Value.ref 245) _ _) _ _ _); k_dflt (refine' Mine.safe_ok ?B ?F ?X ?N ?T ?hk ?hdp ?hu ?htk ?hx ?hs ?hs2 ?_; (case B => k_asm); (case F => k_asm); (case X => k_in); (case N => k_asm); (case T => k_asm); (case hk => exact rfl); (case hdp => (try simp only [depth_deeper]); (try dsimp only [ktrTop]); omega); (case hu => (try simp only [Around.deeper_units]); (try dsimp only [ktrTop]); omega); (case htk => (try dsimp only); omega); (case hx => assumption); (case hs => assumption); (case hs2 => assumption); intro t' h' tk' htk' F' N')))
local macro_rules | `(tactic| walk_at "call builtin:str.strip") => `(tactic| (k_here; (with_reducible show wpAny _ _ (call (Value.builtin "str.strip") [Value.str _ _]) _ _ _); k_dflt (refine' Mine.stripT ?h ?z ?_; (case h => (try dsimp only); omega); (case z => omega)); intro t' k' hk' hl'))
local macro_rules | `(tactic| walk_at "call builtin:str.split") => `(tactic| (k_here; k_dflt (refine' Mine.split_first ?F ?N ?hf ?hx ?hn ?_; (case F => k_asm); (case N => k_asm); (case hf => assumption); (case hx => omega); (case hn => assumption); intro D' t' rest' h' tk' F' N' l1; (try k_lt l1))))
local macro_rules | `(tactic| walk_at "subscriptTail") => `(tactic| (k_here; (with_reducible show wpAny _ _ (subscriptTail _ _ (Value.ref _) (Value.int _ _)) _ _ _); k_dflt (refine' Mine.item_first ?N ?hm ?_; (case N => k_asm); (case hm => k_mem))))
namespace Mine
section
variable {w : World} {p : Program} {loose : List Str} {mean : ExcName → Option Value} {mg mb : Str → Option Value}
  {dp un : Nat} {gd : Option (List Code)} {cn : Str} {cs : Scope} {a : Addr} {ccd : Value} {cl : List (Str × Addr)} {outer : List Env} {A₀ : Around} {base h₀ : Heap} {L : Addr} {m : Str → Option Value} {s : Shared} {Q E : Value → Shared → Prop} {news : List (Addr × Obj)}


theorem tok_code1 {o d k ka st : Addr} {ob oa : Obj} {dv : Value} {t2 t4 t5 t6 t7 t8 : Tok} {md : Addr} {x u z : Str} (B : Below A₀ base outer h₀) (F : Fr h₀ L s.heap m) (X : (hd.heap_39 w.params).In h₀) (N : News h₀ L s.heap ((k, ob) :: (ka, oa) :: (o, instObj 487 d) :: (d, rdict w.params t5 t6 t7 md dv) :: news)) (T : Top p loose mean mg mb h₀) (hk : cs.kind = .function)
  (hdp : dp + 65 < recursionLimit) (hu : un + 160 < cLine) (htk : 0 < s.toks) (hx : x.length ≤ 2000) (lo : (k == sysModules) = false) (loa : (ka == sysModules) = false)
  (hul : u.length ≤ 1000) (hul2 : (Txt.strip u).length ≤ 1000) (hz : unesc (Txt.strip u) = some z) (hz2 : z.length ≤ 2000) (hzn : (!decide ((escF z).length = 0)) = false) (he1 : (escF z).length ≤ 900)
  (hd0 : ob.IsDictOf (strKind PySem.Challenge.rw_bq5017_02.row.prog w) [(Str.ofString "type", .str (Str.ofString "block_code") t2), (Str.ofString "raw", .str x t4), (Str.ofString "attrs", .ref ka)])
  (hda : oa.IsDictOf (strKind PySem.Challenge.rw_bq5017_02.row.prog w) [(Str.ofString "info", .str u t8)])
  (hfa : PyProof.V.FlatPairs PyData.str [(Str.ofString "info", .str u t8)] [(.str (Str.ofString "info"), .str u)])
  (ret : ∀ t' h' tk', 0 < tk' → Fr h₀ L h' m → News h₀ L h' ((k, ob) :: (ka, oa) :: (o, instObj 487 d) :: (d, rdict w.params t5 t6 t7 md dv) :: news) → Q (.str (Str.ofString "<pre><code>" ++ escF x ++ Str.ofString "</code></pre>\n") t') { s with heap := h', toks := tk' }) :
  wpAny (model PySem.Challenge.rw_bq5017_02.row.prog w) (ktrTop dp un gd cn cs L a ccd cl outer) (call (.ref 341) [.ref o, .ref k, .ref st] []) Q E s := by
  revert X
  k_fill
  intro X
  refine wpAny_call ?_
  k_dflt ktr_enter
  k_steps
  refine ⟨?_⟩
  refine' render_told (at' := []) ?B ?F ?X ?N ?ho ?hd ?hdA ?T ?hk ?hdp ?hu ?htk ?hA ?hg ?hlen ?hsys ?hall join_nil ?_
  case N => k_asm
  case hA => assumption
  case ho => k_mem
  case hd => k_mem
  case hdA => k_mem
  case B => k_asm
  case F => k_asm
  case X => k_in
  case T => k_asm
  case hk => exact rfl
  case hdp => (try simp only [depth_deeper]); (try dsimp only [ktrTop]); omega
  case hu => (try simp only [Around.deeper_units]); (try dsimp only [ktrTop]); omega
  case htk => (try dsimp only); omega
  case hg => exact fun a ha => (by cases ha)
  case hlen => exact Nat.le_of_ble_eq_true rfl
  case hsys => assumption
  case hall => exact fun a ha => (by cases ha)
  intro t' h' tk' htk' F' N'
  have hel := escF_len x
  k_steps
  refine str_ret (strEq ?_) (ret _ _ _ ?_ (by assumption) (subL (by assumption) (by intro p hp; repeat (first | assumption | refine List.Mem.tail _ ?_))))
  · simp only [toL_app, List.append_assoc]
    kernel_rfl
  · (try dsimp only); omega
end
end Mine
end
section
local macro_rules | `(tactic| walk_at "own pad 0") => `(tactic| skip)
theorem Mine.start35 : True := by w_top off; trivial
open PySem PySem.W PyProof.Rows PySem.Calls PySem.Spec
set_option maxRecDepth 100000
set_option maxHeartbeats 8000000
set_option linter.unusedVariables false
local macro_rules | `(tactic| k_room) => `(tactic| ktr_room)
local macro_rules | `(tactic| k_all) => `(tactic| first | assumption | exact Mine.neAll (by assumption))
local macro_rules | `(tactic| k_lt $h:ident) => `(tactic| (replace $h := allLt_of $h; simp only [AllLt, and_true] at $h:ident; (repeat (have lx := And.left $h; replace $h := And.right $h))))
local macro_rules | `(tactic| ktr_enter) => `(tactic| (refine' code_def ?k1 ?k2 ?k3 ?k4 ?k5 ?kA ?kF ?kK ?k6 ?k7 ?k8 ?k9 ?kB ?_ ?c2 ?c3 ?c4 ?c5; (case kA => exact rfl); (case kF => exact rfl); (case kK => first | exact rfl | assumption); (case k1 => k_asm); (case k2 => k_asm); (case k3 => k_asm); (case k4 => k_asm); (case k5 => k_asm); (case k6 => k_is); (case k7 => k_is); (case k8 => ktr_room); (case k9 => first | exact BindsTo.of_eq rfl | exact binds_K (by k_in) rfl (by k_is) rfl rfl rfl); (case c5 => decide); (case kB => exact locs rfl); (case c2 => exact rfl); (case c3 => exact rfl); (case c4 => exact rfl); k_whole; intro g' L' h' FG' F' N' B' X' T'; (try dsimp only); (try k_lift B'); (try k_fold)))
local macro_rules | `(tactic| walk_at "call ref") => `(tactic| (k_here; k_dflt (
  (refine' call_cls ?k1 ?k2 ?k3 ?k4 ?k5 ?k6 ?_; (case k1 => k_asm); (case k2 => k_asm); (case k3 => k_asm); (case k4 => k_is); (case k5 => k_is); (case k6 => k_is); intro x' d' h' F' N' l1 l2; (try k_lt l1); (try k_lt2 l2); 
   (refine' ks_code_super ?k1 ?k2 ?k3 ?k4 ?k5 ?kA ?kF ?kK ?k6 ?k7 ?k8 ?k9 ?kB ?_ ?c1 ?c2 ?c3 ?c4; (case kA => exact rfl); (case kF => exact rfl); (case kK => first | exact rfl | assumption); (case k1 => k_asm); (case k2 => k_asm); (case k3 => k_asm); (case k4 => k_asm); (case k5 => k_asm); (case k6 => k_is); (case k7 => k_is); (case k8 => ktr_room); (case k9 => first | exact BindsTo.of_eq rfl | exact binds_K (by k_in) rfl (by k_is) rfl rfl rfl); (case kB => exact locs rfl); (case c1 => decide); (case c2 => exact rfl); (case c3 => exact rfl); (case c4 => exact rfl); intro g' L' h' FG' F' N' B' X' T' l1; (try k_lt l1); (try dsimp only); (try k_lift B'))))))
local macro_rules | `(tactic| walk_at "eval Name") => `(tactic| (k_here; k_dflt (refine' nameX_B ?F ?X ?T ?e ?v ?n ?_ ?a ?b; (case F => k_asm); (case X => k_asm); (case T => k_asm); (case a => rfl); (case b => rfl); (case e => k_is); (case v => first | boot_by_name | kernel_rfl); (case n => decide); k_whole)))
local macro_rules | `(tactic| walk_at "call type:super") => `(tactic| (k_here; k_dflt (refine' Mine.super2 ?F ?X ?N ?I ?c ?d ?_; (case F => k_asm); (case X => k_asm); (case N => k_asm); (case I => k_inst); (case c => k_is); (case d => k_is);  intro so' h' F' N' l1; (try k_lt l1))))

local macro_rules | `(tactic| walk_at "ite") => `(tactic| (first | refine ite_neg (by decide) ?_ | refine ite_pos (by decide) ?_ | refine ite_neg (by decide +kernel) ?_ | refine ite_pos (by decide +kernel) ?_))
local macro_rules | `(tactic| walk_at "forall") => `(tactic| (k_here; intro htk; (try dsimp only at htk); (try dsimp only)))
local macro_rules | `(tactic| walk_at "execs cons") => `(tactic| (k_here; k_dflt (refine' Mine.execs_cons_T ?h ?_; (case h => first | assumption | ((try dsimp only); omega)))))
local macro_rules | `(tactic| walk_at "execs cons") => `(tactic| (k_here; (fail_if_success (refine' Mine.gen_toks (by with_reducible assumption) ?_)); (try dsimp only); refine' Mine.gen_toks (by omega) ?_; intro tk htk))
local macro_rules | `(tactic| walk_at "execs nil") => `(tactic| (k_here; (fail_if_success (refine' Mine.gen_toks (by with_reducible assumption) ?_)); (try dsimp only); refine' Mine.gen_toks (by omega) ?_; intro tk htk))
local macro_rules | `(tactic| walk_at "call builtin:str.replace") => `(tactic| (k_here; k_dflt ((try dsimp only); refine' Mine.replaceT ?a ?b ?c ?d ?e ?f ?g ?_; (case a => (try dsimp only); omega); (case b => (try dsimp only); omega); (case c => (try dsimp only); omega); (case d => (try dsimp only); omega); (case e => decide); (case f => omega); (case g => decide); intro t' k' hk' hl')))
local macro_rules | `(tactic| walk_at "binaryOp Add str str") => `(tactic| (k_here; (with_reducible show wpAny _ _ (binaryOp Operator.Add (Value.str _ _) (Value.str _ _)) _ _ _); k_dflt (refine' Mine.addT ?h ?hsz ?_; (case h => first | assumption | ((try dsimp only); omega)); (case hsz => size_fits)); intro t' k' hk' hl'))
local macro_rules | `(tactic| walk_at "own k_con") => `(tactic| (first | k_asm | k_in | assumption | exact rfl | ((try dsimp only); omega)))
local macro_rules | `(tactic| walk_at "call ref") => `(tactic| (k_here; (with_reducible show wpAny _ _ (call (Value.ref 257) _ _) _ _ _); k_dflt (refine' Mine.unescape_ok ?B ?F ?X ?N ?T ?hk ?hdp ?hu ?htk ?hx ?hs ?_; (case B => k_asm); (case F => k_asm); (case X => k_in); (case N => k_asm); (case T => k_asm); (case hk => exact rfl); (case hdp => (try simp only [depth_deeper]); (try dsimp only [ktrTop]); omega); (case hu => (try simp only [Around.deeper_units]); (try dsimp only [ktrTop]); omega); (case htk => (try dsimp only); omega); (case hx => assumption); (case hs => assumption); intro t' h' tk' htk' F' N')))
local macro_rules | `(tactic| walk_at "call ref") => `(tactic| (k_here; (with_reducible show wpAny _ _ (call (Value.ref 238) _ _) _ _ _); k_dflt (refine' Mine.escape_ok ?B ?F ?X ?N ?T ?hk ?hdp ?hu ?htk ?hx ?_; (case B => k_asm); (case F => k_asm); (case X => k_in); (case N => k_asm); (case T => k_asm); (case hk => exact rfl); (case hdp => (try simp only [depth_deeper]); (try dsimp only [ktrTop]); omega); (case hu => (try simp only [Around.deeper_units]); (try dsimp only [ktrTop]); omega); (case htk => (try dsimp only); omega); (case hx => assumption); intro t' h' tk' htk' F' N')))

local macro_rules | `(tactic| walk_at "ite") => `(tactic| first | refine Mine.iteT (by kernel_rfl!) ?_ | refine Mine.iteF (by kernel_rfl!) ?_)
local macro_rules | `(tactic| walk_at "callWith ref") => `(tactic| (k_here; k_dflt (refine' Mine.callWith_kwN ?X ?F ?N ?hxv ?hkv ?hq ?hf ?hka ?hd ?lo ?z ?_; (case X => k_in); (case F => k_asm); (case N => k_asm); (case hxv => exact rfl); (case hkv => exact rfl); (case hq => k_mem); (case hf => k_is); (case hka => k_mem); (case hd => assumption); (case lo => assumption); (case z => rw [sizeLine_eq]; exact Nat.le_of_ble_eq_true (by with_unfolding_all rfl)); intro D' o' h' F' N' l1; (try k_lt l1))))
local macro_rules | `(tactic| walk_at "truthy str") => `(tactic| (k_here; k_dflt (refine' Mine.truthyS ?a ?b ?_; (case a => assumption); (case b => omega))))
local macro_rules | `(tactic| walk_at "call ref") => `(tactic| (k_here; (with_reducible show wpAny _ _ (call (Value.ref 327) _ _) _ _ _); refine Mine.Held.out ?_))
local macro_rules | `(tactic| walk_at "call ref") => `(tactic| (k_here; (with_reducible show wpAny _ _ (call (Value.ref 245) _ _) _ _ _); k_dflt (refine' Mine.safe_ok ?B ?F ?X ?N ?T ?hk ?hdp ?hu ?htk ?hx ?hs ?hs2 ?_; (case B => k_asm); (case F => k_asm); (case X => k_in); (case N => k_asm); (case T => k_asm); (case hk => exact rfl); (case hdp => (try simp only [depth_deeper]); (try dsimp only [ktrTop]); omega); (case hu => (try simp only [Around.deeper_units]); (try dsimp only [ktrTop]); omega); (case htk => (try dsimp only); omega); (case hx => assumption); (case hs => assumption); (case hs2 => assumption); intro t' h' tk' htk' F' N')))
local macro_rules | `(tactic| walk_at "call builtin:str.strip") => `(tactic| (k_here; (with_reducible show wpAny _ _ (call (Value.builtin "str.strip") [Value.str _ _]) _ _ _); k_dflt (refine' Mine.stripT ?h ?z ?_; (case h => (try dsimp only); omega); (case z => omega)); intro t' k' hk' hl'))
local macro_rules | `(tactic| walk_at "call builtin:str.split") => `(tactic| (k_here; k_dflt (refine' Mine.split_first ?F ?N ?hf ?hx ?hn ?_; (case F => k_asm); (case N => k_asm); (case hf => assumption); (case hx => omega); (case hn => assumption); intro D' t' rest' h' tk' F' N' l1; (try k_lt l1))))
local macro_rules | `(tactic| walk_at "subscriptTail") => `(tactic| (k_here; (with_reducible show wpAny _ _ (subscriptTail _ _ (Value.ref _) (Value.int _ _)) _ _ _); k_dflt (refine' Mine.item_first ?N ?hm ?_; (case N => k_asm); (case hm => k_mem))))
namespace Mine
section
variable {w : World} {p : Program} {loose : List Str} {mean : ExcName → Option Value} {mg mb : Str → Option Value}
  {dp un : Nat} {gd : Option (List Code)} {cn : Str} {cs : Scope} {a : Addr} {ccd : Value} {cl : List (Str × Addr)} {outer : List Env} {A₀ : Around} {base h₀ : Heap} {L : Addr} {m : Str → Option Value} {s : Shared} {Q E : Value → Shared → Prop} {news : List (Addr × Obj)}


theorem tok_code2 {o d k ka st : Addr} {ob oa : Obj} {dv : Value} {t2 t4 t5 t6 t7 t8 : Tok} {md : Addr} {x u z lang yw : Str} (B : Below A₀ base outer h₀) (F : Fr h₀ L s.heap m) (X : (hd.heap_39 w.params).In h₀) (N : News h₀ L s.heap ((k, ob) :: (ka, oa) :: (o, instObj 487 d) :: (d, rdict w.params t5 t6 t7 md dv) :: news)) (T : Top p loose mean mg mb h₀) (hk : cs.kind = .function)
  (hdp : dp + 65 < recursionLimit) (hu : un + 160 < cLine) (htk : 0 < s.toks) (hx : x.length ≤ 2000) (lo : (k == sysModules) = false) (loa : (ka == sysModules) = false)
  (hul : u.length ≤ 1000) (hul2 : (Txt.strip u).length ≤ 1000) (hz : unesc (Txt.strip u) = some z) (hz2 : z.length ≤ 2000) (hzn : (!decide ((escF z).length = 0)) = true)
  (he1 : (escF z).length ≤ 900) (hf1 : (firstWords (escF z)).head? = some lang) (hf2 : (Builtin.Str.spaceWords (escF z) 1).length ≤ 1000) (hll : lang.length ≤ 900) (hlv : ∀ t, VRel (.str (Str.ofString "language-" ++ lang) t) (.txt yw))
  (hd0 : ob.IsDictOf (strKind PySem.Challenge.rw_bq5017_02.row.prog w) [(Str.ofString "type", .str (Str.ofString "block_code") t2), (Str.ofString "raw", .str x t4), (Str.ofString "attrs", .ref ka)])
  (hda : oa.IsDictOf (strKind PySem.Challenge.rw_bq5017_02.row.prog w) [(Str.ofString "info", .str u t8)])
  (hfa : PyProof.V.FlatPairs PyData.str [(Str.ofString "info", .str u t8)] [(.str (Str.ofString "info"), .str u)])
  (ret : ∀ t' h' tk', 0 < tk' → Fr h₀ L h' m → News h₀ L h' ((k, ob) :: (ka, oa) :: (o, instObj 487 d) :: (d, rdict w.params t5 t6 t7 md dv) :: news) → Q (.str (Str.ofString "<pre><code class=\"" ++ yw ++ Str.ofString "\">" ++ escF x ++ Str.ofString "</code></pre>\n") t') { s with heap := h', toks := tk' }) :
  wpAny (model PySem.Challenge.rw_bq5017_02.row.prog w) (ktrTop dp un gd cn cs L a ccd cl outer) (call (.ref 341) [.ref o, .ref k, .ref st] []) Q E s := by
  revert X
  k_fill
  intro X
  refine wpAny_call ?_
  k_dflt ktr_enter
  k_steps
  refine ⟨?_⟩
  refine' render_told (at' := [(Str.ofString "class", .str (Str.ofString "language-" ++ lang) _, .txt yw)]) ?B ?F ?X ?N ?ho ?hd ?hdA ?T ?hk ?hdp ?hu ?htk ?hA ?hg ?hlen ?hsys ?hall one_piece ?_
  case N => k_asm
  case hA => assumption
  case ho => k_mem
  case hd => k_mem
  case hdA => k_mem
  case B => k_asm
  case F => k_asm
  case X => k_in
  case T => k_asm
  case hk => exact rfl
  case hdp => (try simp only [depth_deeper]); (try dsimp only [ktrTop]); omega
  case hu => (try simp only [Around.deeper_units]); (try dsimp only [ktrTop]); omega
  case htk => (try dsimp only); omega
  case hg => exact good_one name_class (by decide) (hlv _)
  case hlen => exact Nat.le_of_ble_eq_true rfl
  case hsys => assumption
  case hall => exact all_one name_class
  intro t' h' tk' htk' F' N'
  have hyw : yw.length ≤ 1000 := (hlv 0).1
  have hel := escF_len x
  k_steps
  refine str_ret (strEq ?_) (ret _ _ _ ?_ (by assumption) (subL (by assumption) (by intro p hp; repeat (first | assumption | refine List.Mem.tail _ ?_))))
  · simp only [toL_app, List.append_assoc]
    kernel_rfl
  · (try dsimp only); omega
end
end Mine
end
section
open PySem PySem.W PyProof.Rows PySem.Calls PySem.Spec
set_option maxRecDepth 100000
set_option maxHeartbeats 8000000
set_option linter.unusedVariables false
namespace Mine
def BoxO (S : Addr) (o : Obj) : Prop := ∃ pl st t1 t2 n, o = PySem.W.listOf #[.ref S, .int pl t1, .int st t2] n ∧ 0 ≤ pl ∧ 0 ≤ st ∧ st < 2147483647
def Scr (base : Heap) (S : Addr) : Prop := ∃ (vs : List Value) (ns : List Int), base.IsList S vs.toArray ∧ IntsAre vs ns ∧ ns.length ≤ 63
def RLs (h₀ : Heap) (news : List (Addr × Obj)) (r : Addr) (vs : Array Value) : Prop := (∃ n, h₀.get? r = some (PySem.W.listOf vs n)) ∨ ∃ n, (r, PySem.W.listOf vs n) ∈ news
theorem RLs.at {h₀ h : Heap} {L r : Addr} {m : Str → Option Value} {news : List (Addr × Obj)} {vs : Array Value} (R : RLs h₀ news r vs) (F : Fr h₀ L h m) (N : News h₀ L h news) : h.IsList r vs := by
  rcases R with ⟨n, e⟩ | ⟨n, e⟩
  · exact ⟨_, F.keep _ _ e, rfl, _, rfl⟩
  · exact ⟨_, (N _ e).1, rfl, _, rfl⟩
theorem RLs.up {h₀ g : Heap} {L r : Addr} {m : Str → Option Value} {news : List (Addr × Obj)} {vs : Array Value} (R : RLs h₀ news r vs) (F : Fr h₀ L g m) : RLs g news r vs := by
  rcases R with ⟨n, e⟩ | ⟨n, e⟩
  · exact .inl ⟨n, F.keep _ _ e⟩
  · exact .inr ⟨n, e⟩
theorem RLs.more {h₀ : Heap} {r : Addr} {news news' : List (Addr × Obj)} {vs : Array Value} (R : RLs h₀ news r vs) (hs : ∀ p ∈ news, p ∈ news') : RLs h₀ news' r vs := by
  rcases R with ⟨n, e⟩ | ⟨n, e⟩
  · exact .inl ⟨n, e⟩
  · exact .inr ⟨n, hs _ e⟩
section
variable {w : World} {p : Program} {loose : List Str} {mean : ExcName → Option Value} {mg mb : Str → Option Value}
  {dp un : Nat} {gd : Option (List Code)} {cn : Str} {cs : Scope} {a : Addr} {ccd : Value} {cl : List (Str × Addr)} {outer : List Env} {A₀ : Around} {base h₀ : Heap} {L : Addr} {m : Str → Option Value} {s : Shared} {Q E : Value → Shared → Prop} {news : List (Addr × Obj)}
theorem draw_B {b S : Addr} {ob : Obj} {size : Int} {t3 : Tok} {rest : List (Addr × Obj)} (hne : ∀ p ∈ rest, p.1 ≠ b)
  (B : Below A₀ base outer h₀) (F : Fr h₀ L s.heap m) (X : (hd.heap_39 w.params).In h₀) (hb : BoxO S ob) (hs : Scr base S)
  (N : News h₀ L s.heap ((b, ob) :: rest)) (T : Top p loose mean mg mb h₀) (hk : cs.kind = .function) (hsz : 0 < size) (hsz2 : size < 1000)
  (hdp : dp + 1 < recursionLimit) (hu : un + 8 < cLine) (htk : 0 < s.toks)
  (ret : ∀ r t ob' h' tk', 0 ≤ r → r < size → BoxO S ob' → 0 < tk' → Fr h₀ L h' m → News h₀ L h' ((b, ob') :: rest) → Q (.int r t) { s with heap := h', toks := tk' }) :
  wpAny (model PySem.Challenge.rw_bq5017_02.row.prog w) (ktrTop dp un gd cn cs L a ccd cl outer) (call (.ref 550) [.ref b, .int size t3]) Q E s := by
  obtain ⟨pl, st, t1, t2, n, rfl, h1, h2, h3⟩ := hb
  obtain ⟨vs, ns, hS, hi, hl⟩ := hs
  refine wpAny_with_toks (n := 1) htk (draw_ok hne B F X N T hk hS hi hl h1 h2 h3 hsz hsz2 hdp hu fun r t pl' t1' st' t2' n' h' tk' a1 a2 a3 a4 a5 F' N' => ?_)
  exact fun hp => ret r t _ h' tk' a1 a2 ⟨pl', st', t1', t2', n', rfl, a3, a4, a5⟩ hp F' N'
end
section
variable {prog : Program} {w : World} {A : Around} {E : Value → Shared → Prop} {s : Shared} {h₀ : Heap} {L : Addr} {m : Str → Option Value} {news : List (Addr × Obj)}
theorem len_R {r : Addr} {vs : Array Value} {k : Int} {Q : Value → Shared → Prop} (R : RLs h₀ news r vs) (F : Fr h₀ L s.heap m) (N : News h₀ L s.heap news) (hz : (vs.size : Int) = k) (hz2 : k ≤ 1000)
    (h : Q (.int k (s.toks + 1)) { s with toks := s.toks + 1 + 1 }) : wpAny (model prog w) A (call (.builtin "len") [.ref r]) Q E s :=
  kun_lenL (R.at F N) hz (by omega) h
theorem item_R {value slice : PySem.Expr} {r : Addr} {vs : Array Value} {i : Int} {t : Tok} {Q : Value → Shared → Prop} (R : RLs h₀ news r vs) (F : Fr h₀ L s.heap m) (N : News h₀ L s.heap news) (h0 : 0 ≤ i) (h1 : i < (vs.size : Int)) (hz : (vs.size : Int) ≤ 1000)
    (h : ∀ v, v ∈ vs → Q v s)
    (hs : subscripted slice false (.ref r) (.int i t) = operate [.ref r, .int i t] (getItem (.ref r) (.int i t)) := by with_unfolding_all rfl) (hg : ∀ x, letTemporaryGo value (.ref r) x = pure () := by intro _; with_unfolding_all rfl) :
    wpAny (model prog w) A (subscriptTail value slice (.ref r) (.int i t)) Q E s := by
  have hl := R.at F N
  have hlt : i.toNat < vs.size := by omega
  exact subscriptTail_builtin hl.typeIs PySem.slot_list_getitem.lookup (wpAny_getItem_list hl (x := vs[i.toNat]) h0 (by omega) (Array.getElem?_eq_getElem hlt) (h _ (Array.getElem_mem hlt))) hs hg
theorem item_K {K : Frag} {value slice : PySem.Expr} {r : Addr} {vs : Array Value} {n : Nat} {i : Int} {t : Tok} {v : Value} {Q : Value → Shared → Prop} (X : K.In h₀) (F : Fr h₀ L s.heap m) (e : K.lookup r = some (PySem.W.listOf vs n)) (h0 : 0 ≤ i ∧ i < 1000) (hx : vs[i.toNat]? = some v)
    (h : Q v s)
    (hs : subscripted slice false (.ref r) (.int i t) = operate [.ref r, .int i t] (getItem (.ref r) (.int i t)) := by with_unfolding_all rfl) (hg : ∀ x, letTemporaryGo value (.ref r) x = pure () := by intro _; with_unfolding_all rfl) :
    wpAny (model prog w) A (subscriptTail value slice (.ref r) (.int i t)) Q E s := by
  have hl : s.heap.IsList r vs := ⟨_, F.keep _ _ (X _ _ e), rfl, _, rfl⟩
  exact subscriptTail_builtin hl.typeIs PySem.slot_list_getitem.lookup (wpAny_getItem_list hl h0.1 (by omega) hx h) hs hg
end
end Mine
end
section
theorem Mine.start37 : True := by w_top off; trivial
open PySem PySem.W PyProof.Rows PySem.Calls PySem.Spec
set_option maxRecDepth 100000
set_option maxHeartbeats 8000000
set_option linter.unusedVariables false
local macro_rules | `(tactic| k_room) => `(tactic| ktr_room)
local macro_rules | `(tactic| k_all) => `(tactic| first | assumption | exact Mine.neAll (by assumption))
local macro_rules | `(tactic| k_lt $h:ident) => `(tactic| (replace $h := allLt_of $h; simp only [AllLt, and_true] at $h:ident; (repeat (have lx := And.left $h; replace $h := And.right $h))))
local macro_rules | `(tactic| ktr_enter) => `(tactic| (refine' code_def ?k1 ?k2 ?k3 ?k4 ?k5 ?kA ?kF ?kK ?k6 ?k7 ?k8 ?k9 ?kB ?_ ?c2 ?c3 ?c4 ?c5; (case kA => exact rfl); (case kF => exact rfl); (case kK => first | exact rfl | assumption); (case k1 => k_asm); (case k2 => k_asm); (case k3 => k_asm); (case k4 => k_asm); (case k5 => k_asm); (case k6 => k_is); (case k7 => k_is); (case k8 => ktr_room); (case k9 => first | exact BindsTo.of_eq rfl | exact binds_K (by k_in) rfl (by k_is) rfl rfl rfl); (case c5 => decide); (case kB => exact locs rfl); (case c2 => exact rfl); (case c3 => exact rfl); (case c4 => exact rfl); k_whole; intro g' L' h' FG' F' N' B' X' T'; (try dsimp only); (try k_lift B'); (try k_fold)))
local macro_rules | `(tactic| walk_at "call ref") => `(tactic| (k_here; k_dflt (
  (refine' call_cls ?k1 ?k2 ?k3 ?k4 ?k5 ?k6 ?_; (case k1 => k_asm); (case k2 => k_asm); (case k3 => k_asm); (case k4 => k_is); (case k5 => k_is); (case k6 => k_is); intro x' d' h' F' N' l1 l2; (try k_lt l1); (try k_lt2 l2); 
   (refine' ks_code_super ?k1 ?k2 ?k3 ?k4 ?k5 ?kA ?kF ?kK ?k6 ?k7 ?k8 ?k9 ?kB ?_ ?c1 ?c2 ?c3 ?c4; (case kA => exact rfl); (case kF => exact rfl); (case kK => first | exact rfl | assumption); (case k1 => k_asm); (case k2 => k_asm); (case k3 => k_asm); (case k4 => k_asm); (case k5 => k_asm); (case k6 => k_is); (case k7 => k_is); (case k8 => ktr_room); (case k9 => first | exact BindsTo.of_eq rfl | exact binds_K (by k_in) rfl (by k_is) rfl rfl rfl); (case kB => exact locs rfl); (case c1 => decide); (case c2 => exact rfl); (case c3 => exact rfl); (case c4 => exact rfl); intro g' L' h' FG' F' N' B' X' T' l1; (try k_lt l1); (try dsimp only); (try k_lift B'))))))
local macro_rules | `(tactic| walk_at "eval Name") => `(tactic| (k_here; k_dflt (refine' nameX_B ?F ?X ?T ?e ?v ?n ?_ ?a ?b; (case F => k_asm); (case X => k_asm); (case T => k_asm); (case a => rfl); (case b => rfl); (case e => k_is); (case v => first | boot_by_name | kernel_rfl); (case n => decide); k_whole)))
local macro_rules | `(tactic| walk_at "call type:super") => `(tactic| (k_here; k_dflt (refine' Mine.super2 ?F ?X ?N ?I ?c ?d ?_; (case F => k_asm); (case X => k_asm); (case N => k_asm); (case I => k_inst); (case c => k_is); (case d => k_is);  intro so' h' F' N' l1; (try k_lt l1))))

local macro_rules | `(tactic| walk_at "ite") => `(tactic| (first | refine ite_neg (by decide) ?_ | refine ite_pos (by decide) ?_ | refine ite_neg (by decide +kernel) ?_ | refine ite_pos (by decide +kernel) ?_))
local macro_rules | `(tactic| walk_at "forall") => `(tactic| (k_here; intro htk; (try dsimp only at htk); (try dsimp only)))
local macro_rules | `(tactic| walk_at "execs cons") => `(tactic| (k_here; k_dflt (refine' Mine.execs_cons_T ?h ?_; (case h => first | assumption | ((try dsimp only); omega)))))
local macro_rules | `(tactic| walk_at "execs cons") => `(tactic| (k_here; (fail_if_success (refine' Mine.gen_toks (by with_reducible assumption) ?_)); (try dsimp only); refine' Mine.gen_toks (by omega) ?_; intro tk htk))
local macro_rules | `(tactic| walk_at "execs nil") => `(tactic| (k_here; (fail_if_success (refine' Mine.gen_toks (by with_reducible assumption) ?_)); (try dsimp only); refine' Mine.gen_toks (by omega) ?_; intro tk htk))
local macro_rules | `(tactic| walk_at "call builtin:str.replace") => `(tactic| (k_here; k_dflt ((try dsimp only); refine' Mine.replaceT ?a ?b ?c ?d ?e ?f ?g ?_; (case a => (try dsimp only); omega); (case b => (try dsimp only); omega); (case c => (try dsimp only); omega); (case d => (try dsimp only); omega); (case e => decide); (case f => omega); (case g => decide); intro t' k' hk' hl')))
local macro_rules | `(tactic| walk_at "own k_ne") => `(tactic| first | assumption | exact Mine.neAll (by assumption))
local macro_rules | `(tactic| walk_at "call ref") => `(tactic| (k_here; (with_reducible show wpAny _ _ (call (Value.ref 550) _ _) _ _ _); k_dflt (refine' Mine.draw_B ?hne ?B ?F ?X ?hb ?hs ?N ?T ?hk ?hsz ?hsz2 ?hdp ?hu ?htk ?_; (case hb => k_asm); (case N => k_asm); (case hne => walk_at "own k_ne"); (case hs => k_asm); (case B => k_asm); (case F => k_asm); (case X => k_in); (case T => k_asm); (case hk => first | exact rfl | assumption); (case hsz => omega); (case hsz2 => omega); (case hdp => (try dsimp only); omega); (case hu => (try dsimp only); omega); (case htk => (try dsimp only); omega); intro r9 t9 ob9 h' tk' hr9 hr9' hb9 htk' F' N')))
local macro_rules | `(tactic| walk_at "call builtin:len") => `(tactic| (k_here; k_dflt (refine' Mine.len_R ?R ?F ?N ?a ?b ?_; (case R => exact Mine.RLs.up (by k_asm) (by k_asm)); (case F => k_asm); (case N => k_asm); (case a => assumption); (case b => assumption))))
namespace Mine
section
variable {w : World} {p : Program} {loose : List Str} {mean : ExcName → Option Value} {mg mb : Str → Option Value}
  {dp un : Nat} {gd : Option (List Code)} {cn : Str} {cs : Scope} {a : Addr} {ccd : Value} {cl : List (Str × Addr)} {outer : List Env} {A₀ : Around} {base h₀ : Heap} {L : Addr} {m : Str → Option Value} {s : Shared} {Q E : Value → Shared → Prop} {news : List (Addr × Obj)}


theorem pick_ok {b S r : Addr} {ob : Obj} {vs : Array Value} {k : Int} {rest : List (Addr × Obj)} (hne : ∀ p ∈ rest, p.1 ≠ b)
  (B : Below A₀ base outer h₀) (F : Fr h₀ L s.heap m) (X : (hd.heap_39 w.params).In h₀) (hb : BoxO S ob) (hs : Scr base S) (N : News h₀ L s.heap ((b, ob) :: rest)) (T : Top p loose mean mg mb h₀) (hk : cs.kind = .function)
  (R : RLs h₀ rest r vs) (hz : (vs.size : Int) = k) (hk0 : 0 < k) (hk1 : k ≤ 900)
  (hdp : dp + 10 < recursionLimit) (hu : un + 30 < cLine) (htk : 0 < s.toks)
  (ret : ∀ v ob' h' tk', v ∈ vs → BoxO S ob' → 0 < tk' → Fr h₀ L h' m → News h₀ L h' ((b, ob') :: rest) → Q v { s with heap := h', toks := tk' }) :
  wpAny (model PySem.Challenge.rw_bq5017_02.row.prog w) (ktrTop dp un gd cn cs L a ccd cl outer) (call (.ref 557) [.ref b, .ref r] []) Q E s := by
  revert X
  k_fill
  intro X
  have R2 : RLs h₀ ((b, ob) :: rest) r vs := R.more fun p hp => List.Mem.tail _ hp
  have hk2 : k ≤ 1000 := by omega
  refine wpAny_with_toks (n := 1) htk ?_
  refine wpAny_call ?_
  k_dflt ktr_enter
  k_steps
  refine' item_R ?R ?F ?N ?h0 ?h1 ?hz ?_
  case R => exact R.up (by k_asm)
  case F => k_asm
  case N => exact subL (by k_asm) fun p hp => List.Mem.tail _ hp
  case h0 => assumption
  case h1 => omega
  case hz => omega
  intro v hv
  k_steps
  exact ret v _ _ _ hv (by assumption) (by assumption) (by assumption) (subL (by assumption) fun p hp => hp)
end
end Mine
end
section
theorem Mine.start38 : True := by w_top off; trivial
open PySem PySem.W PyProof.Rows PySem.Calls PySem.Spec
set_option maxRecDepth 100000
set_option maxHeartbeats 8000000
set_option linter.unusedVariables false
local macro_rules | `(tactic| k_room) => `(tactic| ktr_room)
local macro_rules | `(tactic| k_all) => `(tactic| first | assumption | exact Mine.neAll (by assumption))
local macro_rules | `(tactic| k_lt $h:ident) => `(tactic| (replace $h := allLt_of $h; simp only [AllLt, and_true] at $h:ident; (repeat (have lx := And.left $h; replace $h := And.right $h))))
local macro_rules | `(tactic| ktr_enter) => `(tactic| (refine' code_def ?k1 ?k2 ?k3 ?k4 ?k5 ?kA ?kF ?kK ?k6 ?k7 ?k8 ?k9 ?kB ?_ ?c2 ?c3 ?c4 ?c5; (case kA => exact rfl); (case kF => exact rfl); (case kK => first | exact rfl | assumption); (case k1 => k_asm); (case k2 => k_asm); (case k3 => k_asm); (case k4 => k_asm); (case k5 => k_asm); (case k6 => k_is); (case k7 => k_is); (case k8 => ktr_room); (case k9 => first | exact BindsTo.of_eq rfl | exact binds_K (by k_in) rfl (by k_is) rfl rfl rfl); (case c5 => decide); (case kB => exact locs rfl); (case c2 => exact rfl); (case c3 => exact rfl); (case c4 => exact rfl); k_whole; intro g' L' h' FG' F' N' B' X' T'; (try dsimp only); (try k_lift B'); (try k_fold)))
local macro_rules | `(tactic| walk_at "call ref") => `(tactic| (k_here; k_dflt (
  (refine' call_cls ?k1 ?k2 ?k3 ?k4 ?k5 ?k6 ?_; (case k1 => k_asm); (case k2 => k_asm); (case k3 => k_asm); (case k4 => k_is); (case k5 => k_is); (case k6 => k_is); intro x' d' h' F' N' l1 l2; (try k_lt l1); (try k_lt2 l2); 
   (refine' ks_code_super ?k1 ?k2 ?k3 ?k4 ?k5 ?kA ?kF ?kK ?k6 ?k7 ?k8 ?k9 ?kB ?_ ?c1 ?c2 ?c3 ?c4; (case kA => exact rfl); (case kF => exact rfl); (case kK => first | exact rfl | assumption); (case k1 => k_asm); (case k2 => k_asm); (case k3 => k_asm); (case k4 => k_asm); (case k5 => k_asm); (case k6 => k_is); (case k7 => k_is); (case k8 => ktr_room); (case k9 => first | exact BindsTo.of_eq rfl | exact binds_K (by k_in) rfl (by k_is) rfl rfl rfl); (case kB => exact locs rfl); (case c1 => decide); (case c2 => exact rfl); (case c3 => exact rfl); (case c4 => exact rfl); intro g' L' h' FG' F' N' B' X' T' l1; (try k_lt l1); (try dsimp only); (try k_lift B'))))))
local macro_rules | `(tactic| walk_at "eval Name") => `(tactic| (k_here; k_dflt (refine' nameX_B ?F ?X ?T ?e ?v ?n ?_ ?a ?b; (case F => k_asm); (case X => k_asm); (case T => k_asm); (case a => rfl); (case b => rfl); (case e => k_is); (case v => first | boot_by_name | kernel_rfl); (case n => decide); k_whole)))
local macro_rules | `(tactic| walk_at "call type:super") => `(tactic| (k_here; k_dflt (refine' Mine.super2 ?F ?X ?N ?I ?c ?d ?_; (case F => k_asm); (case X => k_asm); (case N => k_asm); (case I => k_inst); (case c => k_is); (case d => k_is);  intro so' h' F' N' l1; (try k_lt l1))))

local macro_rules | `(tactic| walk_at "ite") => `(tactic| (first | refine ite_neg (by decide) ?_ | refine ite_pos (by decide) ?_ | refine ite_neg (by decide +kernel) ?_ | refine ite_pos (by decide +kernel) ?_))
local macro_rules | `(tactic| walk_at "forall") => `(tactic| (k_here; intro htk; (try dsimp only at htk); (try dsimp only)))
local macro_rules | `(tactic| walk_at "execs cons") => `(tactic| (k_here; k_dflt (refine' Mine.execs_cons_T ?h ?_; (case h => first | assumption | ((try dsimp only); omega)))))
local macro_rules | `(tactic| walk_at "execs cons") => `(tactic| (k_here; (fail_if_success (refine' Mine.gen_toks (by with_reducible assumption) ?_)); (try dsimp only); refine' Mine.gen_toks (by omega) ?_; intro tk htk))
local macro_rules | `(tactic| walk_at "execs nil") => `(tactic| (k_here; (fail_if_success (refine' Mine.gen_toks (by with_reducible assumption) ?_)); (try dsimp only); refine' Mine.gen_toks (by omega) ?_; intro tk htk))
local macro_rules | `(tactic| walk_at "call builtin:str.replace") => `(tactic| (k_here; k_dflt ((try dsimp only); refine' Mine.replaceT ?a ?b ?c ?d ?e ?f ?g ?_; (case a => (try dsimp only); omega); (case b => (try dsimp only); omega); (case c => (try dsimp only); omega); (case d => (try dsimp only); omega); (case e => decide); (case f => omega); (case g => decide); intro t' k' hk' hl')))
local macro_rules | `(tactic| walk_at "own k_ne") => `(tactic| first | assumption | exact Mine.neAll (by assumption))
local macro_rules | `(tactic| walk_at "call ref") => `(tactic| (k_here; (with_reducible show wpAny _ _ (call (Value.ref 550) _ _) _ _ _); k_dflt (refine' Mine.draw_B ?hne ?B ?F ?X ?hb ?hs ?N ?T ?hk ?hsz ?hsz2 ?hdp ?hu ?htk ?_; (case hb => k_asm); (case N => k_asm); (case hne => walk_at "own k_ne"); (case hs => k_asm); (case B => k_asm); (case F => k_asm); (case X => k_in); (case T => k_asm); (case hk => first | exact rfl | assumption); (case hsz => omega); (case hsz2 => omega); (case hdp => (try dsimp only); omega); (case hu => (try dsimp only); omega); (case htk => (try dsimp only); omega); intro r9 t9 ob9 h' tk' hr9 hr9' hb9 htk' F' N')))
local macro_rules | `(tactic| walk_at "call builtin:len") => `(tactic| (k_here; k_dflt (refine' Mine.len_R ?R ?F ?N ?a ?b ?_; (case R => exact Mine.RLs.up (by k_asm) (by k_asm)); (case F => k_asm); (case N => k_asm); (case a => assumption); (case b => assumption))))

local macro_rules | `(tactic| walk_at "call ref") => `(tactic| (k_here; (with_reducible show wpAny _ _ (call (Value.ref 557) _ _) _ _ _); refine Mine.Held.out ?_))
local macro_rules | `(tactic| walk_at "subscriptTail") => `(tactic| (k_here; k_dflt (refine' Mine.item_K ?X ?F ?e ?h0 ?hx ?_; (case X => k_asm); (case F => k_asm); (case e => k_is); (case h0 => decide); (case hx => exact rfl))))
namespace Mine
def WRel (v : Value) : Wr → Prop
  | .skip => v = .none
  | .alone => v = .bool true
  | .txt y => ∃ t, v = .str y t
def chk (x y : Str) : Bool := decide (x.length ≤ 1000) && decide (y.length ≤ 1000) && (match unesc x with | some z => decide (z.length ≤ 2000) && y == escF z | none => false)
theorem vrel_str {x y : Str} {t : Tok} (h : chk x y = true) : VRel (.str x t) (.txt y) := by
  unfold chk at h
  simp only [Bool.and_eq_true, decide_eq_true_eq] at h
  obtain ⟨⟨h1, h2⟩, h3⟩ := h
  cases e : unesc x with
  | none => rw [e] at h3; cases h3
  | some z =>
    rw [e] at h3
    simp only [Bool.and_eq_true, decide_eq_true_eq] at h3
    exact ⟨h2, .inr ⟨x, t, z, rfl, h1, e, h3.1, eq_of_beq h3.2⟩⟩
theorem vrel_int {n : Int} {t : Tok} {y : Str} (hb : -1000000 < n ∧ n < 1000000) (hy : y = Str.ofString (toString n)) : VRel (.int n t) (.txt y) := by
  subst hy
  exact ⟨int_len hb, .inl ⟨n, t, rfl, hb, rfl⟩⟩
theorem fmod_b (x : Int) : -1000000 < x.fmod 1000003 - 500000 ∧ x.fmod 1000003 - 500000 < 1000000 := by
  have h1 := Int.fmod_nonneg_of_pos x (show (0:Int) < 1000003 by decide)
  have h2 := Int.fmod_lt_of_pos x (show (0:Int) < 1000003 by decide)
  omega
section
variable {w : World} {p : Program} {loose : List Str} {mean : ExcName → Option Value} {mg mb : Str → Option Value}
  {dp un : Nat} {gd : Option (List Code)} {cn : Str} {cs : Scope} {a : Addr} {ccd : Value} {cl : List (Str × Addr)} {outer : List Env} {A₀ : Around} {base h₀ : Heap} {L : Addr} {m : Str → Option Value} {s : Shared} {Q E : Value → Shared → Prop} {news : List (Addr × Obj)}


theorem value_ok {b S : Addr} {ob : Obj} {rest : List (Addr × Obj)} (hne : ∀ p ∈ rest, p.1 ≠ b)
  (B : Below A₀ base outer h₀) (F : Fr h₀ L s.heap m) (X : (hd.heap_39 w.params).In h₀) (hb : BoxO S ob) (hs : Scr base S) (N : News h₀ L s.heap ((b, ob) :: rest)) (T : Top p loose mean mg mb h₀) (hk : cs.kind = .function)
  (hdp : dp + 20 < recursionLimit) (hu : un + 60 < cLine) (htk : 0 < s.toks)
  (ret : ∀ q v wv wr ob' h' tk', VRel v wr → WRel wv wr → (∀ p ∈ (b, ob') :: rest, p.1 < q) → BoxO S ob' → 0 < tk' → Fr h₀ L h' m → News h₀ L h' ((q, ⟨.type "tuple", none, .seq #[v, wv] 0, #[]⟩) :: (b, ob') :: rest) → Q (.ref q) { s with heap := h', toks := tk' }) :
  wpAny (model PySem.Challenge.rw_bq5017_02.row.prog w) (ktrTop dp un gd cn cs L a ccd cl outer) (call (.ref 564) [.ref b, .ref S] []) Q E s := by
  revert X
  k_fill
  intro X
  obtain ⟨vs, ns, hS, hi, hlen⟩ := id hs
  refine wpAny_with_toks (n := 1) htk ?_
  refine wpAny_call ?_
  k_dflt ktr_enter
  k_steps
  case _ => exact ret _ _ _ .skip _ _ _ (.inl rfl) rfl (allOf ⟨by assumption, by assumption⟩) (by assumption) (by assumption) (by assumption) (by assumption)
  case _ => exact ret _ _ _ .skip _ _ _ (.inr rfl) rfl (allOf ⟨by assumption, by assumption⟩) (by assumption) (by assumption) (by assumption) (by assumption)
  case _ => exact ret _ _ _ .alone _ _ _ rfl rfl (allOf ⟨by assumption, by assumption⟩) (by assumption) (by assumption) (by assumption) (by assumption)
  case _ => (refine ret _ _ _ (.txt _) _ _ _ (vrel_int (n := 0) (by decide) ?_) ⟨_, rfl⟩ (allOf ⟨by assumption, by assumption⟩) (by assumption) (by assumption) (by assumption) (by assumption); decide +kernel)
  case _ => (refine ret _ _ _ (.txt _) _ _ _ (vrel_int (n := 1) (by decide) ?_) ⟨_, rfl⟩ (allOf ⟨by assumption, by assumption⟩) (by assumption) (by assumption) (by assumption) (by assumption); decide +kernel)
  case _ => exact ret _ _ _ (.txt _) _ _ _ (vrel_int (fmod_b _) rfl) ⟨_, rfl⟩ (allOf ⟨by assumption, by assumption⟩) (by assumption) (by assumption) (by assumption) (by assumption)
  case _ => exact ret _ _ _ (.txt _) _ _ _ (vrel_int (n := -17) (by decide) rfl) ⟨_, rfl⟩ (allOf ⟨by assumption, by assumption⟩) (by assumption) (by assumption) (by assumption) (by assumption)
  refine ⟨?_⟩
  refine' pick_ok ?hne ?B ?F ?X ?hb ?hs ?N ?T ?hk ?R ?hz ?hk0 ?hk1 ?hdp ?hu ?htk ?_
  case hb => assumption
  case N => assumption
  case hne => assumption
  case hs => assumption
  case B => k_asm
  case F => k_asm
  case X => k_in
  case T => k_asm
  case hk => exact rfl
  case R => exact .inl ⟨_, Frag.In.keeps X (Fr.keep (by k_asm)) _ _ (by k_is)⟩
  case hz => exact rfl
  case hk0 => decide
  case hk1 => decide
  case hdp => (try dsimp only); omega
  case hu => (try dsimp only); omega
  case htk => (try dsimp only); omega
  intro v ob' h' tk' hv hb' htk' F' N'
  simp only [List.mem_toArray, List.mem_cons, List.not_mem_nil, or_false] at hv
  rcases hv with rfl | rfl | rfl | rfl | rfl | rfl | rfl | rfl | rfl | rfl | rfl | rfl | rfl | rfl | rfl | rfl | rfl | rfl | rfl | rfl | rfl | rfl | rfl
  all_goals
    k_steps
    refine ret _ _ _ (.txt _) _ _ _ (vrel_str ?_) ⟨_, rfl⟩ (allOf ⟨by assumption, by assumption⟩) (by assumption) (by assumption) (by assumption) (by assumption)
    decide +kernel
end
end Mine
end
section
open PySem PySem.W PyProof.Rows PySem.Spec PyProof.V
set_option maxRecDepth 100000
set_option maxHeartbeats 4000000
set_option linter.unusedVariables false
namespace Mine
section
variable {prog : Program} {w : World} {A : Around} {E : Value → Shared → Prop} {s : Shared} {env : Env} {h₀ : Heap}
theorem seq_loop {R : Result → Shared → Prop} {x : Str} {px : Pos} {body : List Stmt} {I : Addr} {fp : List Addr} {n : Nat} {P : Nat → Value → Prop} {St : Nat → Heap → Prop} {m : Str → Option Value} {nx : List (Addr × Obj)}
    (W : Walks prog w A I fp [I] n P St) (hx : env.kindOf x = some .local)
    (hp : (env.scope.kind == .class || (env.scope.kind == .module && env.locals != env.globals)) = false)
    (hiL : I ≠ env.locals) (hin : h₀.get? I = none) (hLf : env.locals ∉ fp)
    (ex : ∀ i h, St i h → ∃ io, h.get? I = some io)
    (J : Nat → (Str → Option Value) → List (Addr × Obj) → Prop)
    (off : ∀ i m nx, J i m nx → ∀ p ∈ nx, p.1 ≠ I)
    (stab : ∀ i h h' io m nx, St i h → h.get? I = some io → h'.get? I = some io → Fr h₀ env.locals h' m → News h₀ env.locals h' nx → J i m nx → St i h')
    (hst : St 0 s.heap) (F : Fr h₀ env.locals s.heap m) (N : News h₀ env.locals s.heap nx) (h0 : J 0 m nx) (htk : 0 < s.toks)
    (step : ∀ i v m₁ nx₁ h tk io, i < n → P i v → J i m₁ nx₁ → 0 < tk →
      Fr h₀ env.locals h (fun y => if y = x then some v else m₁ y) → News h₀ env.locals h ([(I, io)] ++ nx₁) →
      wpAny (model prog w) A (execs body env) (TurnEnd h₀ env.locals [(I, io)] (J (i + 1)) { s with heap := h, toks := tk }) (notedBy (model prog w) A env fun e s' => R (.error e) s') { s with heap := h, toks := tk })
    (hR : ∀ h' tk m' nx', 0 < tk → Fr h₀ env.locals h' m' → News h₀ env.locals h' nx' → J n m' nx' → R (.ok .next) { s with heap := h', toks := tk }) :
    codeAny (model prog w) A (.forLoop (.Name x px) (.ref I) body [] env) R s := by
  have oldNe : ∀ b o, h₀.get? b = some o → b ∉ [I] := fun b o e q => by rw [List.mem_singleton.mp q, hin] at e; cases e
  refine codeAny_forLoop
    (fun k s' => ∃ H tk m' nx' i, s' = { s with heap := H, toks := tk } ∧ 0 < tk ∧ St i H ∧ Fr h₀ env.locals H m' ∧ News h₀ env.locals H nx' ∧ J i m' nx' ∧ i ≤ n ∧ k = n + 1 - i) ?_ (n + 1)
    ⟨s.heap, s.toks, m, nx, 0, rfl, htk, hst, F, N, h0, Nat.zero_le _, rfl⟩
  rintro k s' ⟨H, tk, m', nx', i, rfl, htk', hst', F', N', hJ, hi, rfl⟩
  have hnw := off i m' nx' hJ
  have next : ∀ h₁ : Heap, (∀ b o, b ∉ [I] → H.get? b = some o → h₁.get? b = some o) → Fr h₀ env.locals h₁ m' ∧ News h₀ env.locals h₁ nx' := fun h₁ hk₁ =>
    ⟨⟨F'.ns.at' fun o e => hk₁ _ o (fun q => hiL (List.mem_singleton.mp q).symm) e, fun b o e => hk₁ b o (oldNe b o e) (F'.keep b o e), F'.above⟩, fun p hp => ⟨hk₁ _ _ (fun q => hnw p hp (List.mem_singleton.mp q)) (N' p hp).1, (N' p hp).2⟩⟩
  by_cases hlt : i < n
  · refine wpAny_with_toks (n := 1) htk' (W.item i _ _ _ hlt hst' fun v h₁ tk₁ hP hst₁ hk₁ => ?_)
    intro htk₁
    obtain ⟨F₁, N₁⟩ := next h₁ hk₁
    refine wpAny_assign_Name (wpAny_storeName_local hx F₁.ns (fun h₂ hn₂ hs₂ => ?_) hp)
    have F₂ := F₁.set hn₂ hs₂
    have hst₂ : St (i + 1) h₂ := W.frame _ _ _ hst₁ fun b hb o e => (hs₂.2 b fun q => hLf (q ▸ hb)).trans e
    obtain ⟨io, hio⟩ := ex _ _ hst₂
    have N₂ : News h₀ env.locals h₂ ([(I, io)] ++ nx') := fun p hp => by
      rcases List.mem_cons.mp hp with e | hp
      · rw [e]; exact ⟨hio, hiL, hin⟩
      · exact (N₁.set hs₂) p hp
    show wpAny (model prog w) A (execs body env) _ _ { s with heap := h₂, toks := tk₁ + 1 }
    refine wpAny_mono (step i v m' nx' h₂ (tk₁ + 1) io hlt hP hJ (Nat.succ_pos _) F₂ N₂) (fun f s₃ h₆ => ?_) fun _ _ x => x
    obtain ⟨hf, h₆, tk₆, m₂, nx₂, htk₆, rfl, F₆, N₆, hJ₆⟩ := h₆
    have N₇ : News h₀ env.locals h₆ nx₂ := fun p hp => N₆ p (List.mem_append_right _ hp)
    have fin : ∃ k, k < n + 1 - i ∧ ∃ H tk m' nx' i, ({ s with heap := h₆, toks := tk₆ } : Shared) = { s with heap := H, toks := tk } ∧ 0 < tk ∧ St i H ∧ Fr h₀ env.locals H m' ∧ News h₀ env.locals H nx' ∧ J i m' nx' ∧ i ≤ n ∧ k = n + 1 - i :=
      ⟨n + 1 - (i + 1), by omega, h₆, tk₆, m₂, nx₂, i + 1, rfl, htk₆, stab _ h₂ h₆ io m₂ nx₂ hst₂ hio (N₆ _ (List.mem_append_left _ (List.Mem.head _))).1 F₆ N₇ hJ₆, F₆, N₇, hJ₆, hlt, rfl⟩
    rcases hf with rfl | rfl
    · exact fin
    · exact fin
  · have hin' : i = n := by omega
    subst hin'
    refine wpAny_with_toks (n := 1) htk' (W.done _ _ _ hst' fun h₁ tk₁ hk₁ => ?_)
    intro htk₁
    refine wpAny_execs_nil ?_
    obtain ⟨F₁, N₁⟩ := next h₁ hk₁
    exact hR h₁ tk₁ m' nx' htk₁ F₁ N₁ hJ
def NameLoopAt (prog : Program) (w : World) (A : Around) (env : Env) (x : Str) (body : List Stmt) (Q : Flow → Shared → Prop) (E : Value → Shared → Prop) (itv : Value) (s₂ : Shared) : Prop :=
  ∀ (px : Pos), codeAny (model prog w) A (.forLoop (.Name x px) itv body [] env) (fun r s' => match r with | .ok f => Q f s' | .error e => cameBackBy (model prog w) A env E e s') s₂
theorem For_nameF {Q : Flow → Shared → Prop} {x : Str} {px pos : Pos} {iter : Expr} {body : List Stmt} {m : Str → Option Value} {L : Addr} (F : Fr h₀ L s.heap m) (hL : env.locals = L)
    (h : wpAny (model prog w) A (eval iter env) (fun xvl s₁ => wpAny (model prog w) A (pyIter xvl) (fun it s₂ => NameLoopAt prog w A env x body Q E it s₂) E s₁) E s)
    (hs : ∀ x, foldedSetIterable iter env x = pure x := by intro _; rfl) :
    wpAny (model prog w) A (exec (.For (.Name x px) iter body [] pos) env) Q E s :=
  wpAny_For (wpAny_mono h (fun _ _ h₁ => wpAny_mono h₁ (fun _ _ h₂ => h₂ px) fun _ _ e => e) fun _ _ e => e) hs
/-- over a list that lies in the ledger or in the ground -/
theorem iter_listN {Q : Flow → Shared → Prop} {x : Str} {body : List Stmt} {l : Addr} {vs : Array Value} {m : Str → Option Value} {nx : List (Addr × Obj)}
    (hh : A.handled = none) (hx : env.kindOf x = some .local) (hp : (env.scope.kind == .class || (env.scope.kind == .module && env.locals != env.globals)) = false)
    (F : Fr h₀ env.locals s.heap m) (N : News h₀ env.locals s.heap nx) (hl : s.heap.IsList l vs) (hlL : l ≠ env.locals)
    (J : Nat → (Str → Option Value) → List (Addr × Obj) → Prop) (h0 : J 0 m nx) (htk : 0 < s.toks)
    (off : ∀ i m nx, J i m nx → ∀ p ∈ nx, p.1 ≠ s.heap.objs.size)
    (stab : ∀ i h m nx, Fr h₀ env.locals h m → News h₀ env.locals h nx → J i m nx → h.IsList l vs)
    (step : ∀ i v m₁ nx₁ h tk io, vs[i]? = some v → J i m₁ nx₁ → 0 < tk →
      Fr h₀ env.locals h (fun y => if y = x then some v else m₁ y) → News h₀ env.locals h ([(s.heap.objs.size, io)] ++ nx₁) →
      wpAny (model prog w) A (execs body env) (TurnEnd h₀ env.locals [(s.heap.objs.size, io)] (J (i + 1)) { s with heap := h, toks := tk }) E { s with heap := h, toks := tk })
    (done : ∀ h' tk m' nx', 0 < tk → Fr h₀ env.locals h' m' → News h₀ env.locals h' nx' → J vs.size m' nx' → Q .next { s with heap := h', toks := tk })
    (hE : PassesOwn (model prog w) A env E) :
    wpAny (model prog w) A (pyIter (.ref l)) (fun it s₂ => NameLoopAt prog w A env x body Q E it s₂) E s := by
  have hne : l ≠ s.heap.objs.size := by
    obtain ⟨o, ho, _⟩ := hl
    exact Nat.ne_of_lt (Heap.lt_size ho)
  refine wpAny_pyIter_list hl ?_
  intro px
  have W := Walks.list (prog := prog) (w := w) hh s.heap.objs.size l hne vs
  refine seq_loop W hx hp (Nat.ne_of_gt F.ns.lt) (next_is_new F) ?_ (fun i h st => by obtain ⟨o, ho, _⟩ := st.1; exact ⟨o, ho⟩) J off ?_ ?_ (F.push _) (fun p hp => ⟨Heap.get?_push_of_some _ (N p hp).1, (N p hp).2⟩) h0 htk ?_ ?_
  · intro hm
    rcases List.mem_cons.mp hm with e | hm
    · exact absurd F.ns.lt (e ▸ Nat.lt_irrefl _)
    · exact hlL (List.mem_singleton.mp hm).symm
  · intro i h h' io m nx st e1 e2 F1 N1 hJ
    refine ⟨?_, stab i h' m nx F1 N1 hJ⟩
    obtain ⟨o, ho, r⟩ := st.1
    rw [e1] at ho
    obtain rfl := Option.some.inj ho
    exact ⟨_, e2, r⟩
  · exact ⟨⟨_, Heap.get?_push_size _ rfl, rfl, rfl⟩, hl.at fun o e => Heap.get?_push_of_some _ e⟩
  · intro i v m₁ nx₁ h tk io hi hP hJ htk F₁ N₁
    exact wpAny_passesOwn hE (step i v m₁ nx₁ h tk io hP hJ htk F₁ N₁)
  · intro h' tk m' nx' htk F' N' hJ
    exact done h' tk m' nx' htk F' N' hJ
theorem iter_rangeN {Q : Flow → Shared → Prop} {x : Str} {body : List Stmt} {r : Addr} {b₀ : Int} {t₀ u₀ v₀ : Tok} {n : Nat} {m : Str → Option Value} {nx : List (Addr × Obj)}
    (hh : A.handled = none) (hx : env.kindOf x = some .local) (hp : (env.scope.kind == .class || (env.scope.kind == .module && env.locals != env.globals)) = false)
    (F : Fr h₀ env.locals s.heap m) (N : News h₀ env.locals s.heap nx) (hr : IsRange s.heap r 0 b₀ 1 t₀ u₀ v₀) (hsmall : Builtin.Range.small 0 b₀ 1 = true) (hn : Builtin.Range.rangeSize 0 b₀ 1 = (n : Int))
    (J : Nat → (Str → Option Value) → List (Addr × Obj) → Prop) (h0 : J 0 m nx) (htk : 0 < s.toks)
    (off : ∀ i m nx, J i m nx → ∀ p ∈ nx, p.1 ≠ s.heap.objs.size)
    (step : ∀ i t m₁ nx₁ h tk io, i < n → J i m₁ nx₁ → 0 < tk →
      Fr h₀ env.locals h (fun y => if y = x then some (.int ((i : Nat) : Int) t) else m₁ y) → News h₀ env.locals h ([(s.heap.objs.size, io)] ++ nx₁) →
      wpAny (model prog w) A (execs body env) (TurnEnd h₀ env.locals [(s.heap.objs.size, io)] (J (i + 1)) { s with heap := h, toks := tk }) E { s with heap := h, toks := tk })
    (done : ∀ h' tk m' nx', 0 < tk → Fr h₀ env.locals h' m' → News h₀ env.locals h' nx' → J n m' nx' → Q .next { s with heap := h', toks := tk })
    (hE : PassesOwn (model prog w) A env E) :
    wpAny (model prog w) A (pyIter (.ref r)) (fun it s₂ => NameLoopAt prog w A env x body Q E it s₂) E s := by
  refine wpAny_pyIter_range hr hsmall ?_
  intro px
  have W := Walks.range (prog := prog) (w := w) hh s.heap.objs.size 0 1 n
  refine seq_loop W hx hp (Nat.ne_of_gt F.ns.lt) (next_is_new F) ?_ (fun i h st => ⟨_, st⟩) J off ?_ ?_ (F.push _) (fun p hp => ⟨Heap.get?_push_of_some _ (N p hp).1, (N p hp).2⟩) h0 htk ?_ ?_
  · intro hm
    exact absurd F.ns.lt (List.mem_singleton.mp hm ▸ Nat.lt_irrefl _)
  · intro i h h' io m nx st e1 e2 F1 N1 hJ
    have e3 : some io = some _ := e1.symm.trans st
    rw [Option.some.inj e3] at e2
    exact e2
  · have e : (Heap.push s.heap { cls := .type "range_iterator", data := .fields #[rawInt 0, rawInt (Builtin.Range.rangeSize 0 b₀ 1), rawInt 1] }).get? s.heap.objs.size = _ := Heap.get?_push_size _ rfl
    rw [hn] at e
    rw [hn]
    simpa using e
  · intro i v m₁ nx₁ h tk io hi hP hJ htk F₁ N₁
    obtain ⟨t, rfl⟩ := hP
    have e : (0 : Int) + (i : Int) * 1 = (i : Int) := by omega
    rw [e] at F₁
    exact wpAny_passesOwn hE (step i t m₁ nx₁ h tk io hi hJ htk F₁ N₁)
  · intro h' tk m' nx' htk F' N' hJ
    exact done h' tk m' nx' htk F' N' hJ
end
end Mine
end
section
open PySem PySem.W PyProof.Rows PySem.Calls PySem.Spec
set_option maxRecDepth 100000
set_option maxHeartbeats 8000000
set_option linter.unusedVariables false
namespace Mine
abbrev Row := (Addr × Obj) × At
def RowOk (x : Row) : Prop := ∃ t wv k, x.1.2 = PySem.W.listOf #[.str x.2.1 t, x.2.2.1, wv] k ∧ WRel wv x.2.2.2
def rowRefs (l : List Row) : Array Value := (l.map fun x => Value.ref x.1.1).toArray
def wstep (told : Str) (a : At) : Str := match a.2.2 with
  | .skip => told
  | .alone => told ++ Str.ofString " " ++ a.1
  | .txt y => told ++ Str.ofString " " ++ a.1 ++ Str.ofString "=\"" ++ y ++ Str.ofString "\""
def wtxt (l : List At) : Str := l.foldl wstep (Str.ofString "")
theorem wstep_len {told : Str} {a : At} (h : GoodA a) : (wstep told a).length ≤ told.length + 3000 := by
  obtain ⟨n, v, wr⟩ := a
  obtain ⟨hn, _, hv⟩ := h
  dsimp only at *
  have e1 : (Str.ofString " ").length = 1 := rfl
  have e2 : (Str.ofString "=\"").length = 2 := rfl
  have e3 : (Str.ofString "\"").length = 1 := rfl
  unfold wstep
  dsimp only
  cases wr with
  | skip => dsimp only; omega
  | alone => dsimp only; rw [app_length, app_length, e1]; omega
  | txt y => have hy := hv.1; dsimp only; rw [app_length, app_length, app_length, app_length, app_length, e1, e2, e3]; omega
theorem wtxt_take {l : List At} {i : Nat} {a : At} (h : l[i]? = some a) : wtxt (l.take (i + 1)) = wstep (wtxt (l.take i)) a := by
  unfold wtxt
  rw [List.take_add_one, h, List.foldl_append]
  rfl
theorem wtxt_len {l : List At} (hg : ∀ a ∈ l, GoodA a) : ∀ i, i ≤ l.length → (wtxt (l.take i)).length ≤ 3000 * i := by
  intro i
  induction i with
  | zero => intro _; exact Nat.le_refl _
  | succ i ih =>
    intro hi
    have h := List.getElem?_eq_getElem (l := l) (i := i) (by omega)
    rw [wtxt_take h]
    have h1 := wstep_len (told := wtxt (l.take i)) (hg _ (List.getElem_mem (by omega : i < l.length)))
    have h2 := ih (by omega)
    omega
theorem rowRefs_get {l : List Row} {i : Nat} {v : Value} (h : (rowRefs l)[i]? = some v) : ∃ x, l[i]? = some x ∧ v = .ref x.1.1 := by
  unfold rowRefs at h
  simp only [List.getElem?_toArray, List.getElem?_map] at h
  cases e : l[i]? with
  | none => rw [e] at h; cases h
  | some x => rw [e] at h; cases h; exact ⟨x, rfl, rfl⟩
theorem rowRefs_size (l : List Row) : (rowRefs l).size = l.length := by simp [rowRefs]
def WJ (m2 : Str → Option Value) (nx0 : List (Addr × Obj)) (l : List At) (i : Nat) (m' : Str → Option Value) (nx : List (Addr × Obj)) : Prop :=
  nx = nx0 ∧ ∃ t, (∀ p ∈ [(Str.ofString "told", Value.str (wtxt (l.take i)) t)], m' p.1 = some p.2) ∧ (∀ z, z ≠ Str.ofString "row" → (∀ p ∈ [(Str.ofString "told", Value.str (wtxt (l.take i)) t)], z ≠ p.1) → ([] : List Str).contains z = false → m' z = m2 z)
theorem WJ0 {m2 : Str → Option Value} {nx0 : List (Addr × Obj)} {l : List At} {t : Tok} (h : m2 (Str.ofString "told") = some (.str (Str.ofString "") t)) : WJ m2 nx0 l 0 m2 nx0 :=
  ⟨rfl, t, fun p hp => by rw [List.mem_singleton.mp hp]; exact h, fun _ _ _ _ => rfl⟩
theorem WJ_keep {m2 u : Str → Option Value} {nx0 : List (Addr × Obj)} {l : List At} {i : Nat} {t : Tok} {v : Value} (e : wtxt (l.take (i + 1)) = wtxt (l.take i)) :
    WJ m2 nx0 l (i + 1) (fun y => if y = Str.ofString "row" then some v else kstB (fun z => if ([] : List Str).contains z then u z else m2 z) [(Str.ofString "told", Value.str (wtxt (l.take i)) t)] y) nx0 :=
  ⟨rfl, t, fun p hp => by
    rw [List.mem_singleton.mp hp, e]
    have a1 : ∀ X : Option Value, (if Str.ofString "told" = Str.ofString "row" then some v else (if Str.ofString "told" = Str.ofString "told" then some (Value.str (wtxt (l.take i)) t) else X)) = some (Value.str (wtxt (l.take i)) t) := fun X => by rw [if_neg (by decide), if_pos rfl]
    exact a1 (if ([] : List Str).contains (Str.ofString "told") = true then u (Str.ofString "told") else m2 (Str.ofString "told")), fun z h1 h2 h3 => by
    have h4 := h2 _ (List.Mem.head _)
    have a1 : (if z = Str.ofString "row" then some v else (if z = Str.ofString "told" then some (Value.str (wtxt (l.take i)) t) else (if ([] : List Str).contains z = true then u z else m2 z))) = m2 z := by
      rw [if_neg h1, if_neg h4, h3]
      rfl
    exact a1⟩
theorem WJ_new {m2 u : Str → Option Value} {nx0 : List (Addr × Obj)} {l : List At} {i : Nat} {t t' : Tok} {v : Value} {T' : Str} (e : wtxt (l.take (i + 1)) = T') :
    WJ m2 nx0 l (i + 1) (fun y => if y = Str.ofString "told" then some (Value.str T' t') else if y = Str.ofString "row" then some v else kstB (fun z => if ([] : List Str).contains z then u z else m2 z) [(Str.ofString "told", Value.str (wtxt (l.take i)) t)] y) nx0 :=
  ⟨rfl, t', fun p hp => by
    rw [List.mem_singleton.mp hp, e]
    exact if_pos rfl, fun z h1 h2 h3 => by
    have h4 := h2 _ (List.Mem.head _)
    have a1 : (if z = Str.ofString "told" then some (Value.str T' t') else (if z = Str.ofString "row" then some v else (if z = Str.ofString "told" then some (Value.str (wtxt (l.take i)) t) else (if ([] : List Str).contains z = true then u z else m2 z)))) = m2 z := by
      rw [if_neg h4, if_neg h1, if_neg h4, h3]
      rfl
    exact a1⟩
end Mine
end
section
theorem Mine.start41 : True := by w_top off; trivial
open PySem PySem.W PyProof.Rows PySem.Calls PySem.Spec
set_option maxRecDepth 100000
set_option maxHeartbeats 8000000
set_option linter.unusedVariables false
local macro_rules | `(tactic| k_room) => `(tactic| ktr_room)
local macro_rules | `(tactic| k_all) => `(tactic| first | assumption | exact Mine.neAll (by assumption))
local macro_rules | `(tactic| k_lt $h:ident) => `(tactic| (replace $h := allLt_of $h; simp only [AllLt, and_true] at $h:ident; (repeat (have lx := And.left $h; replace $h := And.right $h))))
local macro_rules | `(tactic| ktr_enter) => `(tactic| (refine' code_def ?k1 ?k2 ?k3 ?k4 ?k5 ?kA ?kF ?kK ?k6 ?k7 ?k8 ?k9 ?kB ?_ ?c2 ?c3 ?c4 ?c5; (case kA => exact rfl); (case kF => exact rfl); (case kK => first | exact rfl | assumption); (case k1 => k_asm); (case k2 => k_asm); (case k3 => k_asm); (case k4 => k_asm); (case k5 => k_asm); (case k6 => k_is); (case k7 => k_is); (case k8 => ktr_room); (case k9 => first | exact BindsTo.of_eq rfl | exact binds_K (by k_in) rfl (by k_is) rfl rfl rfl); (case c5 => decide); (case kB => exact locs rfl); (case c2 => exact rfl); (case c3 => exact rfl); (case c4 => exact rfl); k_whole; intro g' L' h' FG' F' N' B' X' T'; (try dsimp only); (try k_lift B'); (try k_fold)))
local macro_rules | `(tactic| walk_at "call ref") => `(tactic| (k_here; k_dflt (
  (refine' call_cls ?k1 ?k2 ?k3 ?k4 ?k5 ?k6 ?_; (case k1 => k_asm); (case k2 => k_asm); (case k3 => k_asm); (case k4 => k_is); (case k5 => k_is); (case k6 => k_is); intro x' d' h' F' N' l1 l2; (try k_lt l1); (try k_lt2 l2); 
   (refine' ks_code_super ?k1 ?k2 ?k3 ?k4 ?k5 ?kA ?kF ?kK ?k6 ?k7 ?k8 ?k9 ?kB ?_ ?c1 ?c2 ?c3 ?c4; (case kA => exact rfl); (case kF => exact rfl); (case kK => first | exact rfl | assumption); (case k1 => k_asm); (case k2 => k_asm); (case k3 => k_asm); (case k4 => k_asm); (case k5 => k_asm); (case k6 => k_is); (case k7 => k_is); (case k8 => ktr_room); (case k9 => first | exact BindsTo.of_eq rfl | exact binds_K (by k_in) rfl (by k_is) rfl rfl rfl); (case kB => exact locs rfl); (case c1 => decide); (case c2 => exact rfl); (case c3 => exact rfl); (case c4 => exact rfl); intro g' L' h' FG' F' N' B' X' T' l1; (try k_lt l1); (try dsimp only); (try k_lift B'))))))
local macro_rules | `(tactic| walk_at "eval Name") => `(tactic| (k_here; k_dflt (refine' nameX_B ?F ?X ?T ?e ?v ?n ?_ ?a ?b; (case F => k_asm); (case X => k_asm); (case T => k_asm); (case a => rfl); (case b => rfl); (case e => k_is); (case v => first | boot_by_name | kernel_rfl); (case n => decide); k_whole)))
local macro_rules | `(tactic| walk_at "call type:super") => `(tactic| (k_here; k_dflt (refine' Mine.super2 ?F ?X ?N ?I ?c ?d ?_; (case F => k_asm); (case X => k_asm); (case N => k_asm); (case I => k_inst); (case c => k_is); (case d => k_is);  intro so' h' F' N' l1; (try k_lt l1))))

local macro_rules | `(tactic| walk_at "ite") => `(tactic| (first | refine ite_neg (by decide) ?_ | refine ite_pos (by decide) ?_ | refine ite_neg (by decide +kernel) ?_ | refine ite_pos (by decide +kernel) ?_))
local macro_rules | `(tactic| walk_at "forall") => `(tactic| (k_here; intro htk; (try dsimp only at htk); (try dsimp only)))
local macro_rules | `(tactic| walk_at "execs cons") => `(tactic| (k_here; k_dflt (refine' Mine.execs_cons_T ?h ?_; (case h => first | assumption | ((try dsimp only); omega)))))
local macro_rules | `(tactic| walk_at "execs cons") => `(tactic| (k_here; (fail_if_success (refine' Mine.gen_toks (by with_reducible assumption) ?_)); (try dsimp only); refine' Mine.gen_toks (by omega) ?_; intro tk htk))
local macro_rules | `(tactic| walk_at "execs nil") => `(tactic| (k_here; (fail_if_success (refine' Mine.gen_toks (by with_reducible assumption) ?_)); (try dsimp only); refine' Mine.gen_toks (by omega) ?_; intro tk htk))
local macro_rules | `(tactic| walk_at "call builtin:str.replace") => `(tactic| (k_here; k_dflt ((try dsimp only); refine' Mine.replaceT ?a ?b ?c ?d ?e ?f ?g ?_; (case a => (try dsimp only); omega); (case b => (try dsimp only); omega); (case c => (try dsimp only); omega); (case d => (try dsimp only); omega); (case e => decide); (case f => omega); (case g => decide); intro t' k' hk' hl')))
local macro_rules | `(tactic| walk_at "binaryOp Add str str") => `(tactic| (k_here; (with_reducible show wpAny _ _ (binaryOp Operator.Add (Value.str _ _) (Value.str _ _)) _ _ _); k_dflt (refine' Mine.addT ?h ?hsz ?_; (case h => first | assumption | ((try dsimp only); omega)); (case hsz => size_fits)); intro t' k' hk' hl'))

local macro_rules | `(tactic| walk_at "exec For Name Name cons nil") => `(tactic| (refine Mine.Held.out ?_))
local macro_rules | `(tactic| walk_at "pyIter ref") => `(tactic| (refine Mine.Held.out ?_))
local macro_rules | `(tactic| walk_at "pyIter") => `(tactic| (refine Mine.Held.out ?_))
namespace Mine
section
variable {w : World} {p : Program} {loose : List Str} {mean : ExcName → Option Value} {mg mb : Str → Option Value}
  {dp un : Nat} {gd : Option (List Code)} {cn : Str} {cs : Scope} {a : Addr} {ccd : Value} {cl : List (Str × Addr)} {outer : List Env} {A₀ : Around} {base h₀ : Heap} {L : Addr} {m : Str → Option Value} {s : Shared} {Q E : Value → Shared → Prop} {news : List (Addr × Obj)}


theorem written_ok {R : Addr} {rl : List Row} {nn : Nat} {nx0 : List (Addr × Obj)} (B : Below A₀ base outer h₀) (F : Fr h₀ L s.heap m) (X : (hd.heap_39 w.params).In h₀) (N : News h₀ L s.heap nx0) (T : Top p loose mean mg mb h₀) (hk : cs.kind = .function)
  (hdp : dp + 20 < recursionLimit) (hu : un + 60 < cLine) (htk : 0 < s.toks) (hR : (R, PySem.W.listOf (rowRefs rl) nn) ∈ nx0) (hrl : ∀ x ∈ rl, x.1 ∈ nx0 ∧ RowOk x ∧ GoodA x.2) (hlen : rl.length ≤ 100)
  (ret : ∀ t' h' tk', 0 < tk' → Fr h₀ L h' m → News h₀ L h' nx0 → Q (.str (wtxt (rl.map (·.2))) t') { s with heap := h', toks := tk' }) :
  wpAny (model PySem.Challenge.rw_bq5017_02.row.prog w) (ktrTop dp un gd cn cs L a ccd cl outer) (call (.ref 571) [.ref R] []) Q E s := by
  revert X
  k_fill
  intro X
  refine wpAny_with_toks (n := 1) htk ?_
  refine wpAny_call ?_
  k_dflt ktr_enter
  k_steps
  refine ⟨?_⟩
  rename Fr _ _ _ _ => F2
  refine Mine.For_nameF F2 rfl ?_
  k_steps
  refine ⟨?_⟩
  rename News _ _ _ _ => N2
  refine Mine.iter_listN (vs := rowRefs rl) rfl rfl rfl F2 N2 ⟨_, (N2 _ hR).1, rfl, _, rfl⟩ (N2 _ hR).2.1 (WJ (mOf F2) nx0 (rl.map (·.2))) ?h0 ?tk ?off ?stab ?step ?done ?hE
  case hE => passes_own
  case tk => (try dsimp only); omega
  case h0 =>
    exact WJ0 (if_pos rfl)
  case off =>
    rintro i m' nx ⟨rfl, _⟩ p hp
    exact Nat.ne_of_lt (Heap.lt_size (N2 p hp).1)
  case stab =>
    rintro i h m' nx F3 N3 ⟨rfl, _⟩
    exact ⟨_, (N3 _ hR).1, rfl, _, rfl⟩
  case done =>
    rintro h' tk m' nx' htk4 F4 N4 ⟨rfl, t, h1, h2⟩
    have e : (rl.map (·.2)).take (rowRefs rl).size = rl.map (·.2) := by rw [rowRefs_size]; rw [List.take_of_length_le (by simp)]
    rw [e] at h1 h2
    replace F4 := kst_frOut h1 h2 F4
    k_steps
    exact ret _ _ _ (by assumption) (by assumption) (by assumption)
  case step =>
    rintro i v m₁ nx₁ h tk io hx ⟨rfl, t, h1, h2⟩ htk4 F4 N4
    replace F4 := kst_fr h1 h2 F4
    obtain ⟨x, hget, rfl⟩ := rowRefs_get hx
    obtain ⟨⟨⟨r, ob⟩, ⟨n, v, wr⟩⟩, hxe⟩ : ∃ y, y = x := ⟨_, rfl⟩
    subst hxe
    obtain ⟨hmem, ⟨nt, wv, kk, hob, hwr⟩, hg⟩ := hrl _ (List.mem_of_getElem? hget)
    dsimp only at hmem hob hwr
    subst hob
    have hil : i < rl.length := (List.getElem?_eq_some_iff.mp hget).1
    have hta := wtxt_len (l := rl.map (·.2)) (fun a ha => by obtain ⟨y, hy, rfl⟩ := List.mem_map.mp ha; exact (hrl y hy).2.2) i (by simp; omega)
    have hta2 : (wtxt ((rl.map (·.2)).take i)).length ≤ 300000 := by omega
    have hn1 : n.length ≤ 1000 := hg.1
    have hstep : wtxt ((rl.map (·.2)).take (i + 1)) = wstep (wtxt ((rl.map (·.2)).take i)) (n, v, wr) := wtxt_take (by rw [List.getElem?_map, hget]; rfl)
    replace N4 : News _ _ h ((r, PySem.W.listOf #[.str n nt, v, wv] kk) :: ([(_, io)] ++ nx₁)) := fun p hp => by
      rcases List.mem_cons.mp hp with e | hp
      · rw [e]; exact N4 _ (List.mem_append_right _ hmem)
      · exact N4 p hp
    cases wr with
    | skip =>
      cases hwr
      k_steps
      refine ⟨.inl rfl, _, _, _, _, ?_, rfl, F4, subL N4 (fun p hp => List.Mem.tail _ hp), WJ_keep hstep⟩
      (try dsimp only); omega
    | alone =>
      cases hwr
      k_steps
      refine ⟨.inl rfl, _, _, _, _, ?_, rfl, (by assumption), subL (by assumption) (fun p hp => List.Mem.tail _ hp), WJ_new hstep⟩
      (try dsimp only); omega
    | txt y =>
      obtain ⟨yt, rfl⟩ := hwr
      have hy1 : y.length ≤ 1000 := hg.2.2.1
      k_steps
      refine ⟨.inl rfl, _, _, _, _, ?_, rfl, (by assumption), subL (by assumption) (fun p hp => List.Mem.tail _ hp), WJ_new hstep⟩
      (try dsimp only); omega
end
end Mine
end
section
open PySem PySem.W PyProof.Rows PySem.Calls PySem.Spec
set_option maxRecDepth 100000
set_option maxHeartbeats 8000000
set_option linter.unusedVariables false
namespace Mine
section
variable {s : Shared} {h₀ : Heap} {L : Addr} {m : Str → Option Value} {news : List (Addr × Obj)}
theorem slice_post {vs : Array Value} {slo : Obj} {Q : Value → Shared → Prop} (F : Fr h₀ L s.heap m) (N : News h₀ L s.heap news)
    (k : ∀ D h', Fr h₀ L h' m → News h₀ L h' ((D, PySem.W.listOf vs 0) :: news) → (∀ p ∈ news, p.1 < D) → Q (.ref D) { s with heap := h' }) :
    Q (.ref (s.heap.objs.size + 1)) { s with heap := (s.heap.push slo).push { cls := .type "list", data := .seq vs } } := by
  have e : (s.heap.push slo).objs.size = s.heap.objs.size + 1 := by simp [Heap.push]
  have F1 : Fr h₀ L (s.heap.push slo) m := F.push _
  have N1 : News h₀ L (s.heap.push slo) news := fun p hp => ⟨Heap.get?_push_of_some _ (N p hp).1, (N p hp).2⟩
  rw [← e]
  exact k _ _ (F1.push _) (News.push F1 N1 _ (by rfl)) (fun p hp => Heap.lt_size (N1 p hp).1)
end
theorem sliceH {prog : Program} {w : World} {A : Around} {E : Value → Shared → Prop} {s : Shared} {env : Env} {value : Expr} {lower upper : Option Expr} {p pos : Pos} {Q : Value → Shared → Prop}
    (h : wpAny (model prog w) A (eval value env) (fun o s₁ => wpAny (model prog w) A (evalPart lower env) (fun vl s₂ => wpAny (model prog w) A (evalPart upper env) (fun vu s₃ => Held (
      ∃ l items lo hi h₀ L m news vs, o = .ref l ∧ s₃.heap.IsList l items ∧ items.size ≤ sizeLine ∧ IsPart vl lo ∧ IsPart vu hi ∧ Fr h₀ L s₃.heap m ∧ News h₀ L s₃.heap news ∧ slicePick items lo hi none = vs ∧
        ∀ D h', Fr h₀ L h' m → News h₀ L h' ((D, PySem.W.listOf vs 0) :: news) → (∀ p ∈ news, p.1 < D) → Q (.ref D) { s₃ with heap := h' })) E s₂) E s₁) E s)
    (ht : ∀ o r, letTemporaryGo value o r = pure () := by intro _ _; rfl) :
    wpAny (model prog w) A (eval (.Subscript value (.Slice lower upper none p) pos) env) Q E s :=
  wpAny_Subscript_list_slice (wpAny_mono h (fun _ _ h1 => wpAny_mono h1 (fun _ _ h2 => wpAny_mono h2 (fun _ s₃ h3 => by
    obtain ⟨l, items, lo, hi, h₀, L, m, news, vs, e, hl, hz, p1, p2, F, N, e2, k⟩ := h3.out
    subst e2
    exact ⟨l, items, lo, hi, e, hl, hz, p1, p2, slice_post (Q := Q) F N k⟩) fun _ _ e => e) fun _ _ e => e) fun _ _ e => e) ht
def rawTexts : List Str := [Str.ofString "a<b", Str.ofString "\"x\" & y", Str.ofString " z ", Str.ofString "<i>\n"]
theorem raw_mem {v : Value} {t1 t2 t3 t4 : Tok} (h : v ∈ #[Value.str (Str.ofString "a<b") t1, .str (Str.ofString "\"x\" & y") t2, .str (Str.ofString " z ") t3, .str (Str.ofString "<i>\n") t4]) : ∃ x t, v = .str x t ∧ x ∈ rawTexts := by
  simp only [List.mem_toArray, List.mem_cons, List.not_mem_nil, or_false] at h
  rcases h with rfl | rfl | rfl | rfl
  · exact ⟨_, _, rfl, by simp [rawTexts]⟩
  · exact ⟨_, _, rfl, by simp [rawTexts]⟩
  · exact ⟨_, _, rfl, by simp [rawTexts]⟩
  · exact ⟨_, _, rfl, by simp [rawTexts]⟩
end Mine
end
section
open PySem PySem.W PyProof.Rows PySem.Calls PySem.Spec
set_option maxRecDepth 100000
set_option maxHeartbeats 8000000
set_option linter.unusedVariables false
namespace Mine
def HdRel (y piece : Str) : Prop := (y = Str.ofString "" ∧ piece = Str.ofString "") ∨ (y.length ≤ 1000 ∧ (!decide (y.length = 0)) = true ∧ ∃ yw, (∀ t, VRel (.str y t) (.txt yw)) ∧ piece = Str.ofString " id=\"" ++ yw ++ Str.ofString "\"")
def htmlF (plain : Bool) (x : Str) : Str := match plain with
  | true => Str.ofString "<p>" ++ escF (Txt.strip x) ++ Str.ofString "</p>\n"
  | false => x ++ Str.ofString "\n"
def chkB (u : Str) : Bool := decide (u.length ≤ 1000) && decide ((Txt.strip u).length ≤ 1000) && (match unesc (Txt.strip u) with | some z => decide (z.length ≤ 2000) && decide ((escF z).length = 0) | none => false)
def chkL (u v : Str) : Bool := decide (u.length ≤ 1000) && decide ((Txt.strip u).length ≤ 1000) && (match unesc (Txt.strip u) with | some z => decide (z.length ≤ 2000) && !decide ((escF z).length = 0) && decide ((escF z).length ≤ 900) && decide ((Builtin.Str.spaceWords (escF z) 1).length ≤ 1000) && (match (firstWords (escF z)).head? with | some lang => decide (lang.length ≤ 900) && chk (Str.ofString "language-" ++ lang) (Str.ofString "language-" ++ v) | none => false) | none => false)
theorem chkB_of {u : Str} (h : chkB u = true) : u.length ≤ 1000 ∧ (Txt.strip u).length ≤ 1000 ∧ ∃ z, unesc (Txt.strip u) = some z ∧ z.length ≤ 2000 ∧ (!decide ((escF z).length = 0)) = false ∧ (escF z).length ≤ 900 := by
  unfold chkB at h
  simp only [Bool.and_eq_true, decide_eq_true_eq] at h
  obtain ⟨⟨h1, h2⟩, h3⟩ := h
  cases e : unesc (Txt.strip u) with
  | none => rw [e] at h3; cases h3
  | some z =>
    rw [e] at h3
    simp only [Bool.and_eq_true, decide_eq_true_eq] at h3
    exact ⟨h1, h2, z, rfl, h3.1, by simp [h3.2], by omega⟩
theorem chkL_of {u v : Str} (h : chkL u v = true) : u.length ≤ 1000 ∧ (Txt.strip u).length ≤ 1000 ∧ ∃ z lang, unesc (Txt.strip u) = some z ∧ z.length ≤ 2000 ∧ (!decide ((escF z).length = 0)) = true ∧ (escF z).length ≤ 900 ∧ (firstWords (escF z)).head? = some lang ∧ (Builtin.Str.spaceWords (escF z) 1).length ≤ 1000 ∧ lang.length ≤ 900 ∧ ∀ t, VRel (.str (Str.ofString "language-" ++ lang) t) (.txt (Str.ofString "language-" ++ v)) := by
  unfold chkL at h
  simp only [Bool.and_eq_true, decide_eq_true_eq] at h
  obtain ⟨⟨h1, h2⟩, h3⟩ := h
  cases e : unesc (Txt.strip u) with
  | none => rw [e] at h3; cases h3
  | some z =>
    rw [e] at h3
    simp only [Bool.and_eq_true, decide_eq_true_eq] at h3
    obtain ⟨⟨⟨⟨h4, h5⟩, h6⟩, h7⟩, h8⟩ := h3
    cases e2 : (firstWords (escF z)).head? with
    | none => rw [e2] at h8; cases h8
    | some lang =>
      rw [e2] at h8
      simp only [Bool.and_eq_true, decide_eq_true_eq] at h8
      exact ⟨h1, h2, z, lang, rfl, h4, h5, h6, e2, h7, h8.1, fun t => vrel_str h8.2⟩
section
variable {w : World} {p : Program} {loose : List Str} {mean : ExcName → Option Value} {mg mb : Str → Option Value}
  {dp un : Nat} {gd : Option (List Code)} {cn : Str} {cs : Scope} {a : Addr} {ccd : Value} {cl : List (Str × Addr)} {outer : List Env} {A₀ : Around} {base h₀ : Heap} {L : Addr} {m : Str → Option Value} {s : Shared} {Q E : Value → Shared → Prop} {full : List (Addr × Obj)}
theorem full3 {h₀ h : Heap} {L : Addr} {a b c e : Addr × Obj} {full : List (Addr × Obj)} (N : News h₀ L h full) (ha : a ∈ full) (hb : b ∈ full) (hc : c ∈ full) (he : e ∈ full) : News h₀ L h (a :: b :: c :: e :: full) := fun p hp => by
  rcases List.mem_cons.mp hp with rfl | hp
  · exact N _ ha
  exact full2 N hb hc he p hp
theorem back3 {h₀ h : Heap} {L : Addr} {a b c : Addr × Obj} {full : List (Addr × Obj)} (N : News h₀ L h (a :: b :: c :: full)) : News h₀ L h full := fun p hp => N p (.tail _ (.tail _ (.tail _ hp)))
theorem back4 {h₀ h : Heap} {L : Addr} {a b c e : Addr × Obj} {full : List (Addr × Obj)} (N : News h₀ L h (a :: b :: c :: e :: full)) : News h₀ L h full := fun p hp => N p (.tail _ (.tail _ (.tail _ (.tail _ hp))))
theorem error_at {o d k st : Addr} {ob : Obj} {dv : Value} {t2 t4 t5 t6 t7 : Tok} {md : Addr} {x : Str} (B : Below A₀ base outer h₀) (F : Fr h₀ L s.heap m) (X : (hd.heap_39 w.params).In h₀) (N : News h₀ L s.heap full) (hk' : (k, ob) ∈ full) (ho : (o, instObj 487 d) ∈ full) (hd' : (d, rdict w.params t5 t6 t7 md dv) ∈ full) (T : Top p loose mean mg mb h₀) (hk : cs.kind = .function)
  (hdp : dp + 65 < recursionLimit) (hu : un + 160 < cLine) (htk : 0 < s.toks) (hx : x.length ≤ 2000) (lo : (k == sysModules) = false)
  (hd0 : ob.IsDictOf (PySem.strKind PySem.Challenge.rw_bq5017_02.row.prog w) [(Str.ofString "type", .str (Str.ofString "block_error") t2), (Str.ofString "raw", .str x t4)])
  (hf0 : PyProof.V.FlatPairs PyData.str [(Str.ofString "type", .str (Str.ofString "block_error") t2), (Str.ofString "raw", .str x t4)] [(.str (Str.ofString "type"), .str (Str.ofString "block_error")), (.str (Str.ofString "raw"), .str x)])
  (ret : ∀ t' h' tk', 0 < tk' → Fr h₀ L h' m → News h₀ L h' full → Q (.str (Str.ofString "<div class=\"error\"><pre>" ++ escF x ++ Str.ofString "</pre></div>\n") t') { s with heap := h', toks := tk' }) :
  wpAny (model PySem.Challenge.rw_bq5017_02.row.prog w) (ktrTop dp un gd cn cs L a ccd cl outer) (call (.ref 341) [.ref o, .ref k, .ref st] []) Q E s :=
  tok_error B F X (full2 N hk' ho hd') T hk (by omega) (by omega) htk hx lo hd0 hf0 fun t' h' tk' htk' F' N' => ret t' h' tk' htk' F' (back3 N')
theorem item_at {o d k st : Addr} {ob : Obj} {dv : Value} {t2 t4 t5 t6 t7 : Tok} {md : Addr} {x : Str} (B : Below A₀ base outer h₀) (F : Fr h₀ L s.heap m) (X : (hd.heap_39 w.params).In h₀) (N : News h₀ L s.heap full) (hk' : (k, ob) ∈ full) (ho : (o, instObj 487 d) ∈ full) (hd' : (d, rdict w.params t5 t6 t7 md dv) ∈ full) (T : Top p loose mean mg mb h₀) (hk : cs.kind = .function)
  (hdp : dp + 65 < recursionLimit) (hu : un + 160 < cLine) (htk : 0 < s.toks) (hx : x.length ≤ 2000) (lo : (k == sysModules) = false)
  (hd0 : ob.IsDictOf (PySem.strKind PySem.Challenge.rw_bq5017_02.row.prog w) [(Str.ofString "type", .str (Str.ofString "list_item") t2), (Str.ofString "raw", .str x t4)])
  (hf0 : PyProof.V.FlatPairs PyData.str [(Str.ofString "type", .str (Str.ofString "list_item") t2), (Str.ofString "raw", .str x t4)] [(.str (Str.ofString "type"), .str (Str.ofString "list_item")), (.str (Str.ofString "raw"), .str x)])
  (ret : ∀ t' h' tk', 0 < tk' → Fr h₀ L h' m → News h₀ L h' full → Q (.str (Str.ofString "<li>" ++ x ++ Str.ofString "</li>\n") t') { s with heap := h', toks := tk' }) :
  wpAny (model PySem.Challenge.rw_bq5017_02.row.prog w) (ktrTop dp un gd cn cs L a ccd cl outer) (call (.ref 341) [.ref o, .ref k, .ref st] []) Q E s :=
  tok_item B F X (full2 N hk' ho hd') T hk (by omega) (by omega) htk hx lo hd0 hf0 fun t' h' tk' htk' F' N' => ret t' h' tk' htk' F' (back3 N')
theorem html_at {o d k st : Addr} {ob : Obj} {plain : Bool} {t2 t4 t5 t6 t7 : Tok} {md : Addr} {x : Str} (B : Below A₀ base outer h₀) (F : Fr h₀ L s.heap m) (X : (hd.heap_39 w.params).In h₀) (N : News h₀ L s.heap full) (hk' : (k, ob) ∈ full) (ho : (o, instObj 487 d) ∈ full) (hd' : (d, rdict w.params t5 t6 t7 md (.bool plain)) ∈ full) (T : Top p loose mean mg mb h₀) (hk : cs.kind = .function)
  (hdp : dp + 65 < recursionLimit) (hu : un + 160 < cLine) (htk : 0 < s.toks) (hx : x.length ≤ 2000) (lo : (k == sysModules) = false)
  (hd0 : ob.IsDictOf (PySem.strKind PySem.Challenge.rw_bq5017_02.row.prog w) [(Str.ofString "type", .str (Str.ofString "block_html") t2), (Str.ofString "raw", .str x t4)])
  (hf0 : PyProof.V.FlatPairs PyData.str [(Str.ofString "type", .str (Str.ofString "block_html") t2), (Str.ofString "raw", .str x t4)] [(.str (Str.ofString "type"), .str (Str.ofString "block_html")), (.str (Str.ofString "raw"), .str x)])
  (ret : ∀ t' h' tk', 0 < tk' → Fr h₀ L h' m → News h₀ L h' full → Q (.str (htmlF plain x) t') { s with heap := h', toks := tk' }) :
  wpAny (model PySem.Challenge.rw_bq5017_02.row.prog w) (ktrTop dp un gd cn cs L a ccd cl outer) (call (.ref 341) [.ref o, .ref k, .ref st] []) Q E s := by
  cases plain with
  | false => exact tok_html0 B F X (full2 N hk' ho hd') T hk (by omega) (by omega) htk hx lo hd0 hf0 fun t' h' tk' htk' F' N' => ret t' h' tk' htk' F' (back3 N')
  | true => exact tok_html1 B F X (full2 N hk' ho hd') T hk (by omega) (by omega) htk hx lo hd0 hf0 fun t' h' tk' htk' F' N' => ret t' h' tk' htk' F' (back3 N')
theorem head_at {o d k ka st : Addr} {ob oa : Obj} {dv : Value} {t2 t4 t5 t6 t7 t8 t9 : Tok} {md : Addr} {x y piece : Str} (B : Below A₀ base outer h₀) (F : Fr h₀ L s.heap m) (X : (hd.heap_39 w.params).In h₀) (N : News h₀ L s.heap full) (hk' : (k, ob) ∈ full) (hka' : (ka, oa) ∈ full) (ho : (o, instObj 487 d) ∈ full) (hd' : (d, rdict w.params t5 t6 t7 md dv) ∈ full) (T : Top p loose mean mg mb h₀) (hk : cs.kind = .function)
  (hdp : dp + 65 < recursionLimit) (hu : un + 160 < cLine) (htk : 0 < s.toks) (hx : x.length ≤ 2000) (lo : (k == sysModules) = false) (loa : (ka == sysModules) = false) (hy : HdRel y piece)
  (hd0 : ob.IsDictOf (PySem.strKind PySem.Challenge.rw_bq5017_02.row.prog w) [(Str.ofString "type", .str (Str.ofString "heading") t2), (Str.ofString "raw", .str x t4), (Str.ofString "attrs", .ref ka)])
  (hda : oa.IsDictOf (PySem.strKind PySem.Challenge.rw_bq5017_02.row.prog w) [(Str.ofString "level", .int 3 t8), (Str.ofString "id", .str y t9)])
  (hfa : PyProof.V.FlatPairs PyData.str [(Str.ofString "level", .int 3 t8), (Str.ofString "id", .str y t9)] [(.str (Str.ofString "level"), .int 3), (.str (Str.ofString "id"), .str y)])
  (ret : ∀ t' h' tk', 0 < tk' → Fr h₀ L h' m → News h₀ L h' full → Q (.str (Str.ofString "<h3" ++ piece ++ Str.ofString ">" ++ x ++ Str.ofString "</h3>\n") t') { s with heap := h', toks := tk' }) :
  wpAny (model PySem.Challenge.rw_bq5017_02.row.prog w) (ktrTop dp un gd cn cs L a ccd cl outer) (call (.ref 341) [.ref o, .ref k, .ref st] []) Q E s := by
  rcases hy with ⟨rfl, rfl⟩ | ⟨h1, h2, yw, h3, rfl⟩
  · refine tok_head0 B F X (full3 N hk' hka' ho hd') T hk hdp hu htk hx lo loa (by decide) (by decide) hd0 hda hfa fun t' h' tk' htk' F' N' => ?_
    exact str_ret (strEq (by simp only [toL_app, List.append_assoc]; kernel_rfl)) (ret t' h' tk' htk' F' (back4 N'))
  · refine tok_head (z := x) B F X (full3 N hk' hka' ho hd') T hk hdp hu htk hx lo loa h1 h2 h3 hd0 hda hfa fun t' h' tk' htk' F' N' => ?_
    exact str_ret (strEq (by simp only [toL_app, List.append_assoc]; kernel_rfl)) (ret t' h' tk' htk' F' (back4 N'))
theorem code0_at {o d k st : Addr} {ob : Obj} {dv : Value} {t2 t4 t5 t6 t7 : Tok} {md : Addr} {x : Str} (B : Below A₀ base outer h₀) (F : Fr h₀ L s.heap m) (X : (hd.heap_39 w.params).In h₀) (N : News h₀ L s.heap full) (hk' : (k, ob) ∈ full) (ho : (o, instObj 487 d) ∈ full) (hd' : (d, rdict w.params t5 t6 t7 md dv) ∈ full) (T : Top p loose mean mg mb h₀) (hk : cs.kind = .function)
  (hdp : dp + 65 < recursionLimit) (hu : un + 160 < cLine) (htk : 0 < s.toks) (hx : x.length ≤ 2000) (lo : (k == sysModules) = false)
  (hd0 : ob.IsDictOf (PySem.strKind PySem.Challenge.rw_bq5017_02.row.prog w) [(Str.ofString "type", .str (Str.ofString "block_code") t2), (Str.ofString "raw", .str x t4)])
  (hf0 : PyProof.V.FlatPairs PyData.str [(Str.ofString "type", .str (Str.ofString "block_code") t2), (Str.ofString "raw", .str x t4)] [(.str (Str.ofString "type"), .str (Str.ofString "block_code")), (.str (Str.ofString "raw"), .str x)])
  (ret : ∀ t' h' tk', 0 < tk' → Fr h₀ L h' m → News h₀ L h' full → Q (.str (Str.ofString "<pre><code>" ++ escF x ++ Str.ofString "</code></pre>\n") t') { s with heap := h', toks := tk' }) :
  wpAny (model PySem.Challenge.rw_bq5017_02.row.prog w) (ktrTop dp un gd cn cs L a ccd cl outer) (call (.ref 341) [.ref o, .ref k, .ref st] []) Q E s :=
  tok_code0 B F X (full2 N hk' ho hd') T hk hdp hu htk hx lo hd0 hf0 fun t' h' tk' htk' F' N' => ret t' h' tk' htk' F' (back3 N')
theorem codeB_at {o d k ka st : Addr} {ob oa : Obj} {dv : Value} {t2 t4 t5 t6 t7 t8 : Tok} {md : Addr} {x u : Str} (B : Below A₀ base outer h₀) (F : Fr h₀ L s.heap m) (X : (hd.heap_39 w.params).In h₀) (N : News h₀ L s.heap full) (hk' : (k, ob) ∈ full) (hka' : (ka, oa) ∈ full) (ho : (o, instObj 487 d) ∈ full) (hd' : (d, rdict w.params t5 t6 t7 md dv) ∈ full) (T : Top p loose mean mg mb h₀) (hk : cs.kind = .function)
  (hdp : dp + 65 < recursionLimit) (hu : un + 160 < cLine) (htk : 0 < s.toks) (hx : x.length ≤ 2000) (lo : (k == sysModules) = false) (loa : (ka == sysModules) = false) (hy : chkB u = true)
  (hd0 : ob.IsDictOf (PySem.strKind PySem.Challenge.rw_bq5017_02.row.prog w) [(Str.ofString "type", .str (Str.ofString "block_code") t2), (Str.ofString "raw", .str x t4), (Str.ofString "attrs", .ref ka)])
  (hda : oa.IsDictOf (PySem.strKind PySem.Challenge.rw_bq5017_02.row.prog w) [(Str.ofString "info", .str u t8)])
  (hfa : PyProof.V.FlatPairs PyData.str [(Str.ofString "info", .str u t8)] [(.str (Str.ofString "info"), .str u)])
  (ret : ∀ t' h' tk', 0 < tk' → Fr h₀ L h' m → News h₀ L h' full → Q (.str (Str.ofString "<pre><code>" ++ escF x ++ Str.ofString "</code></pre>\n") t') { s with heap := h', toks := tk' }) :
  wpAny (model PySem.Challenge.rw_bq5017_02.row.prog w) (ktrTop dp un gd cn cs L a ccd cl outer) (call (.ref 341) [.ref o, .ref k, .ref st] []) Q E s := by
  obtain ⟨h1, h2, z, h3, h4, h5, h6⟩ := chkB_of hy
  exact tok_code1 B F X (full3 N hk' hka' ho hd') T hk hdp hu htk hx lo loa h1 h2 h3 h4 h5 h6 hd0 hda hfa fun t' h' tk' htk' F' N' => ret t' h' tk' htk' F' (back4 N')
theorem codeL_at {o d k ka st : Addr} {ob oa : Obj} {dv : Value} {t2 t4 t5 t6 t7 t8 : Tok} {md : Addr} {x u v : Str} (B : Below A₀ base outer h₀) (F : Fr h₀ L s.heap m) (X : (hd.heap_39 w.params).In h₀) (N : News h₀ L s.heap full) (hk' : (k, ob) ∈ full) (hka' : (ka, oa) ∈ full) (ho : (o, instObj 487 d) ∈ full) (hd' : (d, rdict w.params t5 t6 t7 md dv) ∈ full) (T : Top p loose mean mg mb h₀) (hk : cs.kind = .function)
  (hdp : dp + 65 < recursionLimit) (hu : un + 160 < cLine) (htk : 0 < s.toks) (hx : x.length ≤ 2000) (lo : (k == sysModules) = false) (loa : (ka == sysModules) = false) (hy : chkL u v = true)
  (hd0 : ob.IsDictOf (PySem.strKind PySem.Challenge.rw_bq5017_02.row.prog w) [(Str.ofString "type", .str (Str.ofString "block_code") t2), (Str.ofString "raw", .str x t4), (Str.ofString "attrs", .ref ka)])
  (hda : oa.IsDictOf (PySem.strKind PySem.Challenge.rw_bq5017_02.row.prog w) [(Str.ofString "info", .str u t8)])
  (hfa : PyProof.V.FlatPairs PyData.str [(Str.ofString "info", .str u t8)] [(.str (Str.ofString "info"), .str u)])
  (ret : ∀ t' h' tk', 0 < tk' → Fr h₀ L h' m → News h₀ L h' full → Q (.str (Str.ofString "<pre><code class=\"language-" ++ v ++ Str.ofString "\">" ++ escF x ++ Str.ofString "</code></pre>\n") t') { s with heap := h', toks := tk' }) :
  wpAny (model PySem.Challenge.rw_bq5017_02.row.prog w) (ktrTop dp un gd cn cs L a ccd cl outer) (call (.ref 341) [.ref o, .ref k, .ref st] []) Q E s := by
  obtain ⟨h1, h2, z, lang, h3, h4, h5, h6, h7, h8, h9, h10⟩ := chkL_of hy
  refine tok_code2 B F X (full3 N hk' hka' ho hd') T hk hdp hu htk hx lo loa h1 h2 h3 h4 h5 h6 h7 h8 h9 h10 hd0 hda hfa fun t' h' tk' htk' F' N' => ?_
  exact str_ret (strEq (by simp only [toL_app, List.append_assoc]; kernel_rfl)) (ret t' h' tk' htk' F' (back4 N'))
end
theorem infosL : ([("py", "py"), ("py rest", "py"), (" py ", "py"), ("a&amp;b", "a&amp;b"), ("a&copy;", "a©"), ("a\"b c", "a&quot;b"), ("a<b", "a&lt;b"), ("a&amp;lt;", "a&amp;lt;"), ("a&nbsp;b", "a"), ("&#65;", "A")].all fun p => chkL (Str.ofString p.1) (Str.ofString p.2)) = true := by decide +kernel
theorem infosB : (["", "   "].all fun p => chkB (Str.ofString p)) = true := by decide +kernel
end Mine
end
section
local macro_rules | `(tactic| walk_at "own pad 0") => `(tactic| skip)
theorem Mine.start44 : True := by w_top off; trivial
open PySem PySem.W PyProof.Rows PySem.Calls PySem.Spec
set_option maxRecDepth 100000
set_option maxHeartbeats 8000000
set_option linter.unusedVariables false
local macro_rules | `(tactic| k_room) => `(tactic| ktr_room)
local macro_rules | `(tactic| k_all) => `(tactic| first | assumption | exact Mine.neAll (by assumption))
local macro_rules | `(tactic| k_lt $h:ident) => `(tactic| (replace $h := allLt_of $h; simp only [AllLt, and_true] at $h:ident; (repeat (have lx := And.left $h; replace $h := And.right $h))))
local macro_rules | `(tactic| ktr_enter) => `(tactic| (refine' code_def ?k1 ?k2 ?k3 ?k4 ?k5 ?kA ?kF ?kK ?k6 ?k7 ?k8 ?k9 ?kB ?_ ?c2 ?c3 ?c4 ?c5; (case kA => exact rfl); (case kF => exact rfl); (case kK => first | exact rfl | assumption); (case k1 => k_asm); (case k2 => k_asm); (case k3 => k_asm); (case k4 => k_asm); (case k5 => k_asm); (case k6 => k_is); (case k7 => k_is); (case k8 => ktr_room); (case k9 => first | exact BindsTo.of_eq rfl | exact binds_K (by k_in) rfl (by k_is) rfl rfl rfl); (case c5 => decide); (case kB => exact locs rfl); (case c2 => exact rfl); (case c3 => exact rfl); (case c4 => exact rfl); k_whole; intro g' L' h' FG' F' N' B' X' T'; (try dsimp only); (try k_lift B'); (try k_fold)))
local macro_rules | `(tactic| walk_at "call ref") => `(tactic| (k_here; k_dflt (
  (refine' call_cls ?k1 ?k2 ?k3 ?k4 ?k5 ?k6 ?_; (case k1 => k_asm); (case k2 => k_asm); (case k3 => k_asm); (case k4 => k_is); (case k5 => k_is); (case k6 => k_is); intro x' d' h' F' N' l1 l2; (try k_lt l1); (try k_lt2 l2); 
   (refine' ks_code_super ?k1 ?k2 ?k3 ?k4 ?k5 ?kA ?kF ?kK ?k6 ?k7 ?k8 ?k9 ?kB ?_ ?c1 ?c2 ?c3 ?c4; (case kA => exact rfl); (case kF => exact rfl); (case kK => first | exact rfl | assumption); (case k1 => k_asm); (case k2 => k_asm); (case k3 => k_asm); (case k4 => k_asm); (case k5 => k_asm); (case k6 => k_is); (case k7 => k_is); (case k8 => ktr_room); (case k9 => first | exact BindsTo.of_eq rfl | exact binds_K (by k_in) rfl (by k_is) rfl rfl rfl); (case kB => exact locs rfl); (case c1 => decide); (case c2 => exact rfl); (case c3 => exact rfl); (case c4 => exact rfl); intro g' L' h' FG' F' N' B' X' T' l1; (try k_lt l1); (try dsimp only); (try k_lift B'))))))
local macro_rules | `(tactic| walk_at "eval Name") => `(tactic| (k_here; k_dflt (refine' nameX_B ?F ?X ?T ?e ?v ?n ?_ ?a ?b; (case F => k_asm); (case X => k_asm); (case T => k_asm); (case a => rfl); (case b => rfl); (case e => k_is); (case v => first | boot_by_name | kernel_rfl); (case n => decide); k_whole)))
local macro_rules | `(tactic| walk_at "call type:super") => `(tactic| (k_here; k_dflt (refine' Mine.super2 ?F ?X ?N ?I ?c ?d ?_; (case F => k_asm); (case X => k_asm); (case N => k_asm); (case I => k_inst); (case c => k_is); (case d => k_is);  intro so' h' F' N' l1; (try k_lt l1))))

local macro_rules | `(tactic| walk_at "ite") => `(tactic| (first | refine ite_neg (by decide) ?_ | refine ite_pos (by decide) ?_ | refine ite_neg (by decide +kernel) ?_ | refine ite_pos (by decide +kernel) ?_))
local macro_rules | `(tactic| walk_at "forall") => `(tactic| (k_here; intro htk; (try dsimp only at htk); (try dsimp only)))
local macro_rules | `(tactic| walk_at "execs cons") => `(tactic| (k_here; k_dflt (refine' Mine.execs_cons_T ?h ?_; (case h => first | assumption | ((try dsimp only); omega)))))
local macro_rules | `(tactic| walk_at "execs cons") => `(tactic| (k_here; (fail_if_success (refine' Mine.gen_toks (by with_reducible assumption) ?_)); (try dsimp only); refine' Mine.gen_toks (by omega) ?_; intro tk htk))
local macro_rules | `(tactic| walk_at "execs nil") => `(tactic| (k_here; (fail_if_success (refine' Mine.gen_toks (by with_reducible assumption) ?_)); (try dsimp only); refine' Mine.gen_toks (by omega) ?_; intro tk htk))
local macro_rules | `(tactic| walk_at "call builtin:str.replace") => `(tactic| (k_here; k_dflt ((try dsimp only); refine' Mine.replaceT ?a ?b ?c ?d ?e ?f ?g ?_; (case a => (try dsimp only); omega); (case b => (try dsimp only); omega); (case c => (try dsimp only); omega); (case d => (try dsimp only); omega); (case e => decide); (case f => omega); (case g => decide); intro t' k' hk' hl')))
local macro_rules | `(tactic| walk_at "binaryOp Add str str") => `(tactic| (k_here; (with_reducible show wpAny _ _ (binaryOp Operator.Add (Value.str _ _) (Value.str _ _)) _ _ _); k_dflt (refine' Mine.addT ?h ?hsz ?_; (case h => first | assumption | ((try dsimp only); omega)); (case hsz => size_fits)); intro t' k' hk' hl'))
local macro_rules | `(tactic| walk_at "own k_con") => `(tactic| (first | k_asm | k_in | assumption | exact rfl | ((try dsimp only); omega)))
local macro_rules | `(tactic| walk_at "call ref") => `(tactic| (k_here; (with_reducible show wpAny _ _ (call (Value.ref 257) _ _) _ _ _); k_dflt (refine' Mine.unescape_ok ?B ?F ?X ?N ?T ?hk ?hdp ?hu ?htk ?hx ?hs ?_; (case B => k_asm); (case F => k_asm); (case X => k_in); (case N => k_asm); (case T => k_asm); (case hk => exact rfl); (case hdp => (try dsimp only); omega); (case hu => (try dsimp only); omega); (case htk => (try dsimp only); omega); (case hx => assumption); (case hs => assumption); intro t' h' tk' htk' F' N')))
local macro_rules | `(tactic| walk_at "call ref") => `(tactic| (k_here; (with_reducible show wpAny _ _ (call (Value.ref 238) _ _) _ _ _); k_dflt (refine' Mine.escape_ok ?B ?F ?X ?N ?T ?hk ?hdp ?hu ?htk ?hx ?_; (case B => k_asm); (case F => k_asm); (case X => k_in); (case N => k_asm); (case T => k_asm); (case hk => exact rfl); (case hdp => (try dsimp only); omega); (case hu => (try dsimp only); omega); (case htk => (try dsimp only); omega); (case hx => assumption); intro t' h' tk' htk' F' N')))

namespace Mine
theorem neqS {prog : Program} {w : World} {A : Around} {E : Value → Shared → Prop} {s : Shared} {x y : Str} {t u : Tok} {Q : Value → Shared → Prop} (e : x = y) (h : Q (.bool false) s) : wpAny (model prog w) A (compareOp .NotEq (.str x t) (.str y u)) Q E s := by
  refine ne_str ?_
  subst e
  simpa using h
theorem eqS {prog : Program} {w : World} {A : Around} {E : Value → Shared → Prop} {s : Shared} {x y : Str} {t u : Tok} {Q : Value → Shared → Prop} (e : x = y) (h : Q (.bool true) s) : wpAny (model prog w) A (compareOp .Eq (.str x t) (.str y u)) Q E s := by
  refine eq_str ?_
  subst e
  simpa using h
theorem drop23 {h₀ h : Heap} {L : Addr} {a b c : Addr × Obj} {r : List (Addr × Obj)} (N : News h₀ L h (a :: b :: c :: r)) : News h₀ L h (a :: r) := fun p hp => by
  rcases List.mem_cons.mp hp with rfl | hp
  · exact N _ (.head _)
  · exact N _ (.tail _ (.tail _ (.tail _ hp)))
theorem newsTail {h₀ h : Heap} {L : Addr} {a : Addr × Obj} {r : List (Addr × Obj)} (N : News h₀ L h (a :: r)) : News h₀ L h r := fun p hp => N p (.tail _ hp)
structure JB (S b : Addr) (R : Value → Prop) (h₀ : Heap) (L : Addr) (m : Str → Option Value) (rest : List (Addr × Obj)) (s : Shared) (v : Value) (s' : Shared) : Prop where
  out : R v ∧ ∃ ob' h' tk', s' = { s with heap := h', toks := tk' } ∧ 0 < tk' ∧ BoxO S ob' ∧ Fr h₀ L h' m ∧ News h₀ L h' ((b, ob') :: rest)
theorem joinB {M : Model} {A : Around} {t : Sem Value} {E : Value → Shared → Prop} {Q : Value → Shared → Prop} {S b : Addr} {R : Value → Prop} {h₀ : Heap} {L : Addr} {m : Str → Option Value} {rest : List (Addr × Obj)} {s : Shared} (_F : Fr h₀ L s.heap m)
    (h : wpAny M A t (fun v s' => JB S b R h₀ L m rest s v s') E s) (k : ∀ v ob' h' tk', R v → 0 < tk' → BoxO S ob' → Fr h₀ L h' m → News h₀ L h' ((b, ob') :: rest) → Q v { s with heap := h', toks := tk' }) : wpAny M A t Q E s :=
  wpAny_mono h (fun v s' x => by
    obtain ⟨hr, ob', h', tk', rfl, h1, h2, h3, h4⟩ := x.out
    exact k v ob' h' tk' hr h1 h2 h3 h4) fun _ _ x => x
theorem neqD {prog : Program} {w : World} {A : Around} {E : Value → Shared → Prop} {s : Shared} {x y : Str} {t u : Tok} {Q : Value → Shared → Prop} (e : (x == y) = false) (h : Q (.bool true) s) : wpAny (model prog w) A (compareOp .NotEq (.str x t) (.str y u)) Q E s := by
  refine ne_str ?_
  show Q (.bool (!(x == y))) s
  rw [e]
  exact h
theorem stripCE {prog : Program} {w : World} {A : Around} {E : Value → Shared → Prop} {s : Shared} {x y z : Str} {t u : Tok} {Q : Value → Shared → Prop} (e : Txt.stripChars x z = y) (h0 : 0 < s.toks) (hsz : x.length ≤ 1000000) (h : ∀ t' k, 0 < k → y.length ≤ x.length → Q (.str y t') { s with toks := k }) : wpAny (model prog w) A (call (.builtin "str.strip") [.str x t, .str z u]) Q E s := by
  subst e
  exact stripCT h0 hsz h
def chkP (x y : Str) : Bool := decide (x.length ≤ 100) && decide (y.length ≤ 100) && chk (Str.ofString "i" ++ x) (Str.ofString "i" ++ y)
theorem chkP_of {x y : Str} (h : chkP x y = true) : x.length ≤ 100 ∧ y.length ≤ 100 ∧ ∀ t, VRel (.str (Str.ofString "i" ++ x) t) (.txt (Str.ofString "i" ++ y)) := by
  unfold chkP at h
  simp only [Bool.and_eq_true, decide_eq_true_eq] at h
  exact ⟨h.1.1, h.1.2, fun t => vrel_str h.2⟩
def PairF (K : Frag) (v : Value) : Prop := ∃ pa x0 y0 t t' n, v = .ref pa ∧ K.lookup pa = some (PySem.W.listOf #[.str x0 t, .str y0 t'] n) ∧ chkP x0 y0 = true
def InfoF (K : Frag) (v : Value) : Prop := ∃ ia n, v = .ref ia ∧ ((∃ t', K.lookup ia = some (PySem.W.listOf #[.none, .str (Str.ofString "") t'] n)) ∨ (∃ u t t', K.lookup ia = some (PySem.W.listOf #[.str u t, .str (Str.ofString "") t'] n) ∧ chkB u = true) ∨ (∃ u y t t', K.lookup ia = some (PySem.W.listOf #[.str u t, .str y t'] n) ∧ chkL u y = true ∧ (y == Str.ofString "") = false ∧ y.length ≤ 100))
def NameR (x0 y0 y piece : Str) : Prop := (y = Str.ofString "" ∧ piece = Str.ofString "") ∨ (y = Str.ofString "i" ++ x0 ∧ piece = Str.ofString " id=\"i" ++ y0 ++ Str.ofString "\"")
theorem i_ne (x : Str) : (Str.ofString "i" ++ x == Str.ofString "") = false := by
  refine beq_eq_false_iff_ne.mpr fun e => ?_
  have h1 : (Str.ofString "i" ++ x).length = 0 := by rw [e]; rfl
  rw [app_length] at h1
  have h2 : (Str.ofString "i").length = 1 := rfl
  omega
theorem NameR.hd {x0 y0 y piece : Str} (h : NameR x0 y0 y piece) (hx : x0.length ≤ 100) (hv : ∀ t, VRel (.str (Str.ofString "i" ++ x0) t) (.txt (Str.ofString "i" ++ y0))) : HdRel y piece := by
  rcases h with ⟨rfl, rfl⟩ | ⟨rfl, rfl⟩
  · exact .inl ⟨rfl, rfl⟩
  · refine .inr ⟨?_, ?_, _, hv, ?_⟩
    · rw [app_length]
      have h2 : (Str.ofString "i").length = 1 := rfl
      omega
    · have h2 : (Str.ofString "i").length = 1 := rfl
      have h3 : ¬ (Str.ofString "i" ++ x0).length = 0 := by rw [app_length]; omega
      rw [decide_eq_false h3]
      rfl
    · exact strEq (by simp only [toL_app, List.append_assoc]; kernel_rfl!)
theorem NameR.len {x0 y0 y piece : Str} (h : NameR x0 y0 y piece) (hx : x0.length ≤ 100) (hy : y0.length ≤ 100) : y.length ≤ 200 ∧ piece.length ≤ 200 := by
  have h2 : (Str.ofString "i").length = 1 := rfl
  have h3 : (Str.ofString " id=\"i").length = 6 := rfl
  have h4 : (Str.ofString "\"").length = 1 := rfl
  rcases h with ⟨rfl, rfl⟩ | ⟨rfl, rfl⟩
  · exact ⟨by decide, by decide⟩
  · rw [app_length, app_length, app_length]
    omega
section
variable {prog : Program} {w : World} {A : Around} {E : Value → Shared → Prop} {s : Shared} {h₀ : Heap} {L : Addr} {m : Str → Option Value}
theorem item_K0 {K : Frag} {value slice : PySem.Expr} {r : Addr} {v0 v1 : Value} {n : Nat} {t : Tok} {Q : Value → Shared → Prop} (X : K.In h₀) (F : Fr h₀ L s.heap m) (e : K.lookup r = some (PySem.W.listOf #[v0, v1] n))
    (h : Q v0 s)
    (hs : subscripted slice false (.ref r) (.int 0 t) = operate [.ref r, .int 0 t] (getItem (.ref r) (.int 0 t)) := by with_unfolding_all rfl) (hg : ∀ x, letTemporaryGo value (.ref r) x = pure () := by intro _; with_unfolding_all rfl) :
    wpAny (model prog w) A (subscriptTail value slice (.ref r) (.int 0 t)) Q E s := item_K X F e (by decide) rfl h hs hg
theorem item_K1 {K : Frag} {value slice : PySem.Expr} {r : Addr} {v0 v1 : Value} {n : Nat} {t : Tok} {Q : Value → Shared → Prop} (X : K.In h₀) (F : Fr h₀ L s.heap m) (e : K.lookup r = some (PySem.W.listOf #[v0, v1] n))
    (h : Q v1 s)
    (hs : subscripted slice false (.ref r) (.int 1 t) = operate [.ref r, .int 1 t] (getItem (.ref r) (.int 1 t)) := by with_unfolding_all rfl) (hg : ∀ x, letTemporaryGo value (.ref r) x = pure () := by intro _; with_unfolding_all rfl) :
    wpAny (model prog w) A (subscriptTail value slice (.ref r) (.int 1 t)) Q E s := item_K X F e (by decide) rfl h hs hg
end
theorem raw_elen {x : Str} (h : x ∈ rawTexts) : (Txt.strip x).length ≤ 100 ∧ (escF (Txt.strip x)).length ≤ 1000 ∧ (escF x).length ≤ 1000 := by
  have : (rawTexts.all fun x => decide ((Txt.strip x).length ≤ 100) && decide ((escF (Txt.strip x)).length ≤ 1000) && decide ((escF x).length ≤ 1000)) = true := by decide +kernel
  have h2 := List.all_eq_true.mp this x h
  simp only [Bool.and_eq_true, decide_eq_true_eq] at h2
  exact ⟨h2.1.1, h2.1.2, h2.2⟩
theorem raw_len {x : Str} (h : x ∈ rawTexts) : x.length ≤ 100 := by
  have : (rawTexts.all fun x => decide (x.length ≤ 100)) = true := by decide +kernel
  exact of_decide_eq_true (List.all_eq_true.mp this x h)
theorem raw_strip {x : Str} (h : x ∈ rawTexts) : Txt.stripChars x (Str.ofString " \n") = Txt.strip x := by
  have : (rawTexts.all fun x => Txt.stripChars x (Str.ofString " \n") == Txt.strip x) = true := by decide +kernel
  exact eq_of_beq (List.all_eq_true.mp this x h)
end Mine
local macro_rules | `(tactic| walk_at "mine con") => `(tactic| ((case B => k_asm); (case F => k_asm); (case X => k_in); (case N => k_asm); (case T => k_asm); (case hk => exact rfl); (case hdp => (try simp only [depth_deeper]); (try dsimp only [ktrTop]); omega); (case hu => (try simp only [Around.deeper_units]); (try dsimp only [ktrTop]); omega); (case htk => (try dsimp only); omega)))
local macro_rules | `(tactic| walk_at "call ref") => `(tactic| (k_here; (with_reducible show wpAny _ _ (call (Value.ref 585) _ _) _ _ _); k_dflt (refine' Mine.plain_ok ?B ?F ?X ?N ?T ?hk ?hdp ?hu ?htk ?hx ?_; walk_at "mine con"; (case hx => omega); intro t' h' tk' htk' F' N')))
local macro_rules | `(tactic| walk_at "compareOp NotEq str str") => `(tactic| (k_here; k_dflt (refine' Mine.neqS ?e ?_; (case e => first | with_reducible rfl | exact Mine.strEq (by simp only [Mine.toL_app, List.append_assoc]; kernel_rfl)))))
local macro_rules | `(tactic| walk_at "compareOp Eq str str") => `(tactic| (k_here; k_dflt (refine' Mine.eqS ?e ?_; (case e => first | with_reducible rfl | exact Mine.strEq (by simp only [Mine.toL_app, List.append_assoc]; kernel_rfl)))))
local macro_rules | `(tactic| walk_at "call ref") => `(tactic| (k_here; (with_reducible show wpAny _ _ (call (Value.ref 550) _ _) _ _ _); k_dflt (refine' Mine.draw_B ?hne ?B ?F ?X ?hb ?hs ?N ?T ?hk ?hsz ?hsz2 ?hdp ?hu ?htk ?_; (case hb => k_asm); (case N => k_asm); (case hne => first | assumption | exact Mine.neAll (by assumption)); (case hs => k_asm); (case B => k_asm); (case F => k_asm); (case X => k_in); (case T => k_asm); (case hk => first | exact rfl | assumption); (case hsz => omega); (case hsz2 => omega); (case hdp => (try simp only [depth_deeper]); (try dsimp only [ktrTop]); omega); (case hu => (try simp only [Around.deeper_units]); (try dsimp only [ktrTop]); omega); (case htk => (try dsimp only); omega); intro r9 t9 ob9 h' tk' hr9 hr9' hb9 htk' F' N')))
local macro_rules | `(tactic| walk_at "subscriptTail") => `(tactic| (k_here; (with_reducible show wpAny _ _ (subscriptTail _ _ (Value.ref _) (Value.int 0 _)) _ _ _); refine' Mine.item_K0 ?X ?F ?e ?_ ?hs ?hg; (case e => with_reducible assumption); (case X => k_asm); (case F => k_asm); (case hs => with_unfolding_all rfl); (case hg => (intro _; with_unfolding_all rfl))))
local macro_rules | `(tactic| walk_at "subscriptTail") => `(tactic| (k_here; (with_reducible show wpAny _ _ (subscriptTail _ _ (Value.ref _) (Value.int 1 _)) _ _ _); refine' Mine.item_K1 ?X ?F ?e ?_ ?hs ?hg; (case e => with_reducible assumption); (case X => k_asm); (case F => k_asm); (case hs => with_unfolding_all rfl); (case hg => (intro _; with_unfolding_all rfl))))
local macro_rules | `(tactic| walk_at "compareOp NotEq str str") => `(tactic| (k_here; k_dflt (refine' Mine.neqD ?e ?_; (case e => with_reducible assumption))))
local macro_rules | `(tactic| walk_at "call builtin:str.strip") => `(tactic| (k_here; (with_reducible show wpAny _ _ (call (Value.builtin "str.strip") [Value.str _ _, Value.str _ _]) _ _ _); k_dflt (refine' Mine.stripCE ?e ?h ?z ?_; (case e => assumption); (case h => (try dsimp only); omega); (case z => omega)); intro t' k' hk' hl'))
local macro_rules | `(tactic| walk_at "eval IfExp") => `(tactic| (k_here; refine Mine.Held.out ?_))
local macro_rules | `(tactic| walk_at "call ref") => `(tactic| (k_here; (with_reducible show wpAny _ _ (call (Value.ref 557) _ _) _ _ _); refine Mine.Held.out ?_))
local macro_rules | `(tactic| walk_at "call ref") => `(tactic| (k_here; (with_reducible show wpAny _ _ (call (Value.ref 341) _ _) _ _ _); refine Mine.Held.out ?_))
local macro_rules | `(tactic| walk_at "eval Subscript") => `(tactic| ((with_reducible show wpAny _ _ (eval (Expr.Subscript _ (Expr.Slice _ _ none _) _) _) _ _ _); k_dflt (refine Mine.sliceH ?_)))
namespace Mine
section
variable {w : World} {p : Program} {loose : List Str} {mean : ExcName → Option Value} {mg mb : Str → Option Value}
  {dp un : Nat} {gd : Option (List Code)} {cn : Str} {cs : Scope} {a : Addr} {ccd : Value} {cl : List (Str × Addr)} {outer : List Env} {A₀ : Around} {base h₀ : Heap} {L : Addr} {m : Str → Option Value} {s : Shared} {Q E : Value → Shared → Prop} {news : List (Addr × Obj)}


theorem tokens_ok {o d b S st : Addr} {ob : Obj} {t5 t6 t7 : Tok} {md : Addr} {plain : Bool} (B : Below A₀ base outer h₀) (F : Fr h₀ L s.heap m) (X : (hd.heap_39 w.params).In h₀) (hb : BoxO S ob) (hs : Scr base S)
  (N : News h₀ L s.heap ((b, ob) :: (o, instObj 487 d) :: (d, rdict w.params t5 t6 t7 md (.bool plain)) :: news)) (T : Top p loose mean mg mb h₀) (hk : cs.kind = .function)
  (hne : ∀ p ∈ (o, instObj 487 d) :: (d, rdict w.params t5 t6 t7 md (.bool plain)) :: news, p.1 ≠ b) (hdp : dp + 100 < recursionLimit) (hu : un + 250 < cLine) (htk : 0 < s.toks)
  (ret : ∀ ob' h' tk', BoxO S ob' → 0 < tk' → Fr h₀ L h' m → News h₀ L h' ((b, ob') :: (o, instObj 487 d) :: (d, rdict w.params t5 t6 t7 md (.bool plain)) :: news) → Q (.bool true) { s with heap := h', toks := tk' }) :
  wpAny (model PySem.Challenge.rw_bq5017_02.row.prog w) (ktrTop dp un gd cn cs L a ccd cl outer) (call (.ref 592) [.ref b, .ref o, .ref st, .bool plain] []) Q E s := by
  revert X
  k_fill
  intro X
  refine wpAny_with_toks (n := 1) htk ?_
  refine wpAny_call ?_
  k_dflt ktr_enter
  k_steps
  have e1 : slicePick #[.ref 506, .ref 507, .ref 508, .ref 509, .ref 510, .ref 511, .ref 512, .ref 513, .ref 514, .ref 515, .ref 516, .ref 517, .ref 518, .ref 519, .ref 520, .ref 521, .ref 522, .ref 523, .ref 524, .ref 525, .ref 526, .ref 527, .ref 528] (some 1) none none = #[.ref 507, .ref 508, .ref 509, .ref 510, .ref 511, .ref 512, .ref 513, .ref 514, .ref 515, .ref 516, .ref 517, .ref 518, .ref 519, .ref 520, .ref 521, .ref 522, .ref 523, .ref 524, .ref 525, .ref 526, .ref 527, .ref 528] := by kernel_rfl
  refine ⟨529, _, some 1, none, _, _, _, _, _, rfl, ⟨_, Fr.keep (by assumption) _ _ (Frag.In.keeps X (Fr.keep (by k_asm)) _ _ (by k_is)), rfl, _, rfl⟩, by rw [sizeLine_eq]; decide, .int _ _, .none, by assumption, by assumption, e1, fun D1 h1 F1 N1 l1 => ?_⟩
  k_steps
  refine ⟨?_⟩
  refine' pick_ok (rest := (D1, PySem.W.listOf _ 0) :: (o, instObj 487 d) :: (d, rdict w.params t5 t6 t7 md (.bool plain)) :: news) ?hne ?B ?F ?X ?hb ?hs (swap2 N1) ?T ?hk (.inr ⟨0, List.Mem.head _⟩) ?hz ?hk0 ?hk1 ?hdp ?hu ?htk ?_
  case hne => exact List.forall_mem_cons.mpr ⟨Nat.ne_of_gt (l1 _ (List.Mem.head _)), hne⟩
  case hb => assumption
  case hs => assumption
  case B => k_asm
  case F => k_asm
  case X => k_in
  case T => k_asm
  case hk => exact rfl
  case hz => exact rfl
  case hk0 => first | decide | (show (0:Int) < 4; decide)
  case hk1 => first | decide | (show (4:Int) ≤ 900; decide)
  case hdp => (try dsimp only); omega
  case hu => (try dsimp only); omega
  case htk => (try dsimp only); omega
  intro pair ob1 h2 tk2 hpair hb1 htk2 F2 N2
  have hpf : PairF (hd.heap_39 w.params) pair := by
    simp only [List.mem_toArray, List.mem_cons, List.not_mem_nil, or_false] at hpair
    rcases hpair with rfl | rfl | rfl | rfl | rfl | rfl | rfl | rfl | rfl | rfl | rfl | rfl | rfl | rfl | rfl | rfl | rfl | rfl | rfl | rfl | rfl | rfl
    all_goals
      refine ⟨_, _, _, _, _, _, rfl, by k_is, ?_⟩
      decide +kernel
  clear hpair
  obtain ⟨pa, x0, y0, pt, pt', pn, rfl, hpl, hpc⟩ := hpf
  obtain ⟨hx0, hy0, hvr⟩ := chkP_of hpc
  have hin := i_ne x0
  k_steps
  refine ⟨?_⟩
  rename News _ _ _ _ => N3
  refine' pick_ok (rest := (headOf N3, PySem.W.listOf _ 0) :: (D1, PySem.W.listOf _ 0) :: (o, instObj 487 d) :: (d, rdict w.params t5 t6 t7 md (.bool plain)) :: news) ?hne ?B ?F ?X ?hb ?hs (swap2 N3) ?T ?hk (.inr ⟨0, List.Mem.head _⟩) ?hz ?hk0 ?hk1 ?hdp ?hu ?htk ?_
  case hne => exact List.forall_mem_cons.mpr ⟨Nat.ne_of_gt (by assumption), List.forall_mem_cons.mpr ⟨Nat.ne_of_gt (l1 _ (List.Mem.head _)), hne⟩⟩
  case hb => assumption
  case hs => assumption
  case B => k_asm
  case F => k_asm
  case X => k_in
  case T => k_asm
  case hk => exact rfl
  case hz => exact rfl
  case hk0 => first | decide | (show (0:Int) < 4; decide)
  case hk1 => first | decide | (show (4:Int) ≤ 900; decide)
  case hdp => (try dsimp only); omega
  case hu => (try dsimp only); omega
  case htk => (try dsimp only); omega
  intro raw ob2 h3 tk3 hraw hb2 htk3 F3 N4
  obtain ⟨x, xt, rfl, hx⟩ := raw_mem hraw
  have hxl := raw_len hx
  have hxs := raw_strip hx
  obtain ⟨hel1, hel2, hel⟩ := raw_elen hx
  replace N4 := drop23 N4
  k_steps
  refine ⟨?_⟩
  refine' error_at (x := x) ?B ?F ?X ?N ?hk' ?ho ?hd' ?T ?hk ?hdp ?hu ?htk ?hx ?lo ?hd0 ?hf0 ?_
  case hd0 => assumption
  case hf0 => assumption
  walk_at "mine con"
  case hk' => k_mem
  case ho => k_mem
  case hd' => k_mem
  case hx => omega
  case lo => assumption
  intro t' h' tk' htk' F' N'
  replace N' := newsTail N'
  k_steps
  refine ⟨?_⟩
  refine' item_at (x := x) ?B ?F ?X ?N ?hk' ?ho ?hd' ?T ?hk ?hdp ?hu ?htk ?hx ?lo ?hd0 ?hf0 ?_
  case hd0 => assumption
  case hf0 => assumption
  walk_at "mine con"
  case hk' => k_mem
  case ho => k_mem
  case hd' => k_mem
  case hx => omega
  case lo => assumption
  intro t' h' tk' htk' F' N'
  replace N' := newsTail N'
  k_steps
  refine ⟨?_⟩
  refine' html_at (x := x) ?B ?F ?X ?N ?hk' ?ho ?hd' ?T ?hk ?hdp ?hu ?htk ?hx ?lo ?hd0 ?hf0 ?_
  case hd0 => assumption
  case hf0 => assumption
  walk_at "mine con"
  case hk' => k_mem
  case ho => k_mem
  case hd' => k_mem
  case hx => omega
  case lo => assumption
  intro t' h' tk' htk' F' N'
  replace N' := newsTail N'
  k_steps
  refine ⟨?_⟩
  rename Fr _ _ _ _ => FJ
  rename News _ _ _ _ => NJ
  refine joinB FJ (S := S) (b := b) (R := fun v => ∃ t, v = .str (htmlF plain x) t) (rest := (o, instObj 487 d) :: (d, rdict w.params t5 t6 t7 md (.bool plain)) :: news) ?_ ?_
  · cases plain with
    | true =>
      refine IfExp_ ?_
      k_steps
      exact ⟨⟨_, rfl⟩, _, _, _, rfl, by (try dsimp only); omega, hb2, by assumption, by assumption⟩
    | false =>
      refine IfExp_ ?_
      k_steps
      exact ⟨⟨_, rfl⟩, _, _, _, rfl, by (try dsimp only); omega, hb2, by assumption, by assumption⟩
  intro v ob3 h5 tk5 hR htk5 hb3 F5 N5
  obtain ⟨vt, rfl⟩ := hR
  k_steps
  refine ⟨?_⟩
  rename Fr _ _ _ _ => FJ
  refine joinB FJ (S := S) (b := b) (R := fun v => ∃ y piece t, v = .str y t ∧ NameR x0 y0 y piece) (rest := (o, instObj 487 d) :: (d, rdict w.params t5 t6 t7 md (.bool plain)) :: news) ?_ ?_
  · refine IfExp_ ?_
    k_steps
    case _ => exact ⟨⟨_, _, _, rfl, .inr ⟨rfl, rfl⟩⟩, _, _, _, rfl, by (try dsimp only); omega, by assumption, by assumption, by assumption⟩
    case _ => exact ⟨⟨_, _, _, rfl, .inl ⟨rfl, rfl⟩⟩, _, _, _, rfl, by (try dsimp only); omega, by assumption, by assumption, by assumption⟩
  intro v ob4 h6 tk6 hR htk6 hb4 F6 N6
  obtain ⟨y, piece, yt, rfl, hnr⟩ := hR
  obtain ⟨hyl, hpcl⟩ := hnr.len hx0 hy0
  k_steps
  refine ⟨?_⟩
  rename Fr _ _ _ _ => FJ
  refine joinB FJ (S := S) (b := b) (R := fun v => ∃ t, v = .str piece t) (rest := (o, instObj 487 d) :: (d, rdict w.params t5 t6 t7 md (.bool plain)) :: news) ?_ ?_
  · rcases id hnr with ⟨rfl, rfl⟩ | ⟨rfl, rfl⟩
    · refine IfExp_ ?_
      k_steps
      exact ⟨⟨_, rfl⟩, _, _, _, rfl, by (try dsimp only); omega, by assumption, by assumption, by assumption⟩
    · refine IfExp_ ?_
      k_steps
      exact ⟨⟨_, rfl⟩, _, _, _, rfl, by (try dsimp only); omega, by assumption, by assumption, by assumption⟩
  intro v ob5 h7 tk7 hR htk7 hb5 F7 N7
  obtain ⟨pt2, rfl⟩ := hR
  have hhd := hnr.hd hx0 hvr
  k_steps
  refine ⟨?_⟩
  refine' head_at (x := Str.ofString "w") ?B ?F ?X ?N ?hk' ?hka' ?ho ?hd' ?T ?hk ?hdp ?hu ?htk ?hx ?lo ?loa hhd ?hd0 ?hda ?hfa ?_
  case hd0 => assumption
  case hda => assumption
  case hfa => assumption
  walk_at "mine con"
  case hk' => k_mem
  case hka' => k_mem
  case ho => k_mem
  case hd' => k_mem
  case hx => decide
  case lo => assumption
  case loa => assumption
  intro t8 h8 tk8 htk8 F8 N8
  replace N8 := newsTail (newsTail N8)
  k_steps
  refine ⟨?_⟩
  rename News _ _ _ _ => N9
  refine' pick_ok (rest := (o, instObj 487 d) :: (d, rdict w.params t5 t6 t7 md (.bool plain)) :: news) ?hne ?B ?F ?X ?hb ?hs ?N ?T ?hk ?R ?hz ?hk0 ?hk1 ?hdp ?hu ?htk ?_
  case hne => exact hne
  case hb => assumption
  case hs => assumption
  walk_at "mine con"
  case R => exact .inl ⟨_, Frag.In.keeps X (Fr.keep (by k_asm)) _ _ (by k_is)⟩
  case hz => exact rfl
  case hk0 => decide
  case hk1 => decide
  intro info ob6 h9 tk9 hinfo hb6 htk9 F9 N10
  have hif : InfoF (hd.heap_39 w.params) info := by
    simp only [List.mem_toArray, List.mem_cons, List.not_mem_nil, or_false] at hinfo
    rcases hinfo with rfl | rfl | rfl | rfl | rfl | rfl | rfl | rfl | rfl | rfl | rfl | rfl | rfl
    · exact ⟨_, _, rfl, .inl ⟨_, by k_is⟩⟩
    · exact ⟨_, _, rfl, .inr (.inl ⟨_, _, _, by k_is, by decide +kernel⟩)⟩
    · exact ⟨_, _, rfl, .inr (.inl ⟨_, _, _, by k_is, by decide +kernel⟩)⟩
    all_goals exact ⟨_, _, rfl, .inr (.inr ⟨_, _, _, _, by k_is, by decide +kernel, by decide +kernel, by decide +kernel⟩)⟩
  clear hinfo
  obtain ⟨ia, inn, rfl, hi⟩ := hif
  rcases hi with ⟨it', hil⟩ | ⟨u, ut, ut', hil, hch⟩ | ⟨u, v, ut, ut', hil, hch, hvn, hvl⟩
  · k_steps
    refine ⟨?_⟩
    refine IfExp_ ?_
    k_steps
    refine ⟨?_⟩
    skip
    refine' code0_at (x := x) ?B ?F ?X ?N ?hk' ?ho ?hd' ?T ?hk ?hdp ?hu ?htk ?hx ?lo ?hd0 ?hf0 ?_
    case hd0 => assumption
    case hf0 => assumption
    walk_at "mine con"
    case hk' => k_mem
    case ho => k_mem
    case hd' => k_mem
    case hx => omega
    case lo => assumption
    intro t' h' tk' htk' F' N'
    replace N' := newsTail N'
    k_steps
    exact ret _ _ _ hb6 (by (try dsimp only); omega) (by assumption) (by assumption)
  · k_steps
    refine ⟨?_⟩
    refine IfExp_ ?_
    k_steps
    refine ⟨?_⟩
    refine' codeB_at (x := x) ?B ?F ?X ?N ?hk' ?hka' ?ho ?hd' ?T ?hk ?hdp ?hu ?htk ?hx ?lo ?loa hch ?hd0 ?hda ?hfa ?_
    case hd0 => assumption
    case hda => assumption
    case hfa => assumption
    walk_at "mine con"
    case hka' => k_mem
    case loa => assumption
    case hk' => k_mem
    case ho => k_mem
    case hd' => k_mem
    case hx => omega
    case lo => assumption
    intro t' h' tk' htk' F' N'
    replace N' := newsTail <| newsTail N'
    k_steps
    exact ret _ _ _ hb6 (by (try dsimp only); omega) (by assumption) (by assumption)
  · k_steps
    refine ⟨?_⟩
    refine IfExp_ ?_
    k_steps
    refine ⟨?_⟩
    skip
    refine' codeL_at (x := x) ?B ?F ?X ?N ?hk' ?hka' ?ho ?hd' ?T ?hk ?hdp ?hu ?htk ?hx ?lo ?loa hch ?hd0 ?hda ?hfa ?_
    case hd0 => assumption
    case hda => assumption
    case hfa => assumption
    walk_at "mine con"
    case hka' => k_mem
    case loa => assumption
    case hk' => k_mem
    case ho => k_mem
    case hd' => k_mem
    case hx => omega
    case lo => assumption
    intro t' h' tk' htk' F' N'
    replace N' := newsTail <| newsTail N'
    k_steps
    exact ret _ _ _ hb6 (by (try dsimp only); omega) (by assumption) (by assumption)
end
end Mine
end
section
theorem Mine.start45 : True := by w_top off; trivial
open PySem PySem.W PyProof.Rows PySem.Calls PySem.Spec
set_option maxRecDepth 100000
set_option maxHeartbeats 8000000
set_option linter.unusedVariables false
local macro_rules | `(tactic| k_room) => `(tactic| ktr_room)
local macro_rules | `(tactic| k_all) => `(tactic| first | assumption | exact Mine.neAll (by assumption))
local macro_rules | `(tactic| k_lt $h:ident) => `(tactic| (replace $h := allLt_of $h; simp only [AllLt, and_true] at $h:ident; (repeat (have lx := And.left $h; replace $h := And.right $h))))
local macro_rules | `(tactic| ktr_enter) => `(tactic| (refine' code_def ?k1 ?k2 ?k3 ?k4 ?k5 ?kA ?kF ?kK ?k6 ?k7 ?k8 ?k9 ?kB ?_ ?c2 ?c3 ?c4 ?c5; (case kA => exact rfl); (case kF => exact rfl); (case kK => first | exact rfl | assumption); (case k1 => k_asm); (case k2 => k_asm); (case k3 => k_asm); (case k4 => k_asm); (case k5 => k_asm); (case k6 => k_is); (case k7 => k_is); (case k8 => ktr_room); (case k9 => first | exact BindsTo.of_eq rfl | exact binds_K (by k_in) rfl (by k_is) rfl rfl rfl); (case c5 => decide); (case kB => exact locs rfl); (case c2 => exact rfl); (case c3 => exact rfl); (case c4 => exact rfl); k_whole; intro g' L' h' FG' F' N' B' X' T'; (try dsimp only); (try k_lift B'); (try k_fold)))
local macro_rules | `(tactic| walk_at "call ref") => `(tactic| (k_here; k_dflt (
  (refine' call_cls ?k1 ?k2 ?k3 ?k4 ?k5 ?k6 ?_; (case k1 => k_asm); (case k2 => k_asm); (case k3 => k_asm); (case k4 => k_is); (case k5 => k_is); (case k6 => k_is); intro x' d' h' F' N' l1 l2; (try k_lt l1); (try k_lt2 l2); 
   (refine' ks_code_super ?k1 ?k2 ?k3 ?k4 ?k5 ?kA ?kF ?kK ?k6 ?k7 ?k8 ?k9 ?kB ?_ ?c1 ?c2 ?c3 ?c4; (case kA => exact rfl); (case kF => exact rfl); (case kK => first | exact rfl | assumption); (case k1 => k_asm); (case k2 => k_asm); (case k3 => k_asm); (case k4 => k_asm); (case k5 => k_asm); (case k6 => k_is); (case k7 => k_is); (case k8 => ktr_room); (case k9 => first | exact BindsTo.of_eq rfl | exact binds_K (by k_in) rfl (by k_is) rfl rfl rfl); (case kB => exact locs rfl); (case c1 => decide); (case c2 => exact rfl); (case c3 => exact rfl); (case c4 => exact rfl); intro g' L' h' FG' F' N' B' X' T' l1; (try k_lt l1); (try dsimp only); (try k_lift B'))))))
local macro_rules | `(tactic| walk_at "eval Name") => `(tactic| (k_here; k_dflt (refine' nameX_B ?F ?X ?T ?e ?v ?n ?_ ?a ?b; (case F => k_asm); (case X => k_asm); (case T => k_asm); (case a => rfl); (case b => rfl); (case e => k_is); (case v => first | boot_by_name | kernel_rfl); (case n => decide); k_whole)))
local macro_rules | `(tactic| walk_at "call type:super") => `(tactic| (k_here; k_dflt (refine' Mine.super2 ?F ?X ?N ?I ?c ?d ?_; (case F => k_asm); (case X => k_asm); (case N => k_asm); (case I => k_inst); (case c => k_is); (case d => k_is);  intro so' h' F' N' l1; (try k_lt l1))))

local macro_rules | `(tactic| walk_at "ite") => `(tactic| (first | refine ite_neg (by decide) ?_ | refine ite_pos (by decide) ?_ | refine ite_neg (by decide +kernel) ?_ | refine ite_pos (by decide +kernel) ?_))
local macro_rules | `(tactic| walk_at "forall") => `(tactic| (k_here; intro htk; (try dsimp only at htk); (try dsimp only)))
local macro_rules | `(tactic| walk_at "execs cons") => `(tactic| (k_here; k_dflt (refine' Mine.execs_cons_T ?h ?_; (case h => first | assumption | ((try dsimp only); omega)))))
local macro_rules | `(tactic| walk_at "execs cons") => `(tactic| (k_here; (fail_if_success (refine' Mine.gen_toks (by with_reducible assumption) ?_)); (try dsimp only); refine' Mine.gen_toks (by omega) ?_; intro tk htk))
local macro_rules | `(tactic| walk_at "execs nil") => `(tactic| (k_here; (fail_if_success (refine' Mine.gen_toks (by with_reducible assumption) ?_)); (try dsimp only); refine' Mine.gen_toks (by omega) ?_; intro tk htk))
local macro_rules | `(tactic| walk_at "call builtin:str.replace") => `(tactic| (k_here; k_dflt ((try dsimp only); refine' Mine.replaceT ?a ?b ?c ?d ?e ?f ?g ?_; (case a => (try dsimp only); omega); (case b => (try dsimp only); omega); (case c => (try dsimp only); omega); (case d => (try dsimp only); omega); (case e => decide); (case f => omega); (case g => decide); intro t' k' hk' hl')))
local macro_rules | `(tactic| walk_at "call ref") => `(tactic| (k_here; (with_reducible show wpAny _ _ (call (Value.ref 327) _ _) _ _ _); refine Mine.Held.out ?_))
local macro_rules | `(tactic| k_room) => `(tactic| ktr_room)
local macro_rules | `(tactic| walk_at "own kts_go0") => `(tactic| (refine' code_defS0 ?k1 ?k2 ?k3 ?k4 ?k5 ?kA ?k6 ?k7 ?k8 ?k9 ?kB ?_ ?cK ?c2 ?c3 ?c4 ?c5; (case kA => exact rfl); (case k2 => k_asm); (case k1 => k_asm); (case k3 => k_asm); (case k4 => k_asm); (case k5 => k_asm); (case k6 => k_is); (case k7 => k_is); (case k8 => ktr_room); (case k9 => first | exact binds_K (by k_in) rfl (by k_is) rfl rfl rfl | exact BindsTo.of_eq rfl); (case kB => exact locs rfl); (case cK => first | assumption | exact rfl); (case c2 => exact rfl); (case c3 => exact rfl); (case c4 => exact rfl); (case c5 => decide); k_whole; intro g' L' h' FG' F' N' B' X' T' D'; (try dsimp only); (try k_lift B'); (try k_fold)))
namespace Mine
section
variable {w : World} {p : Program} {loose : List Str} {mean : ExcName → Option Value} {mg mb : Str → Option Value}
  {dp un : Nat} {gd : Option (List Code)} {cn : Str} {cs : Scope} {a : Addr} {ccd : Value} {A₀ : Around} {base h₀ : Heap} {L : Addr} {m : Str → Option Value} {s : Shared} {Q E : Value → Shared → Prop} {news : List (Addr × Obj)}


theorem refused_ok {o d dA : Addr} {dd oA : Obj} {at' : List At} (B : Below A₀ base [] h₀) (F : Fr h₀ L s.heap m) (X : (hd.heap_39 w.params).In h₀) (XB : (hd.heap_39 w.params).In base) (N : News h₀ L s.heap ((o, instObj 487 d) :: (d, dd) :: (dA, oA) :: news)) (T : Top p loose mean mg mb h₀) (TB : Top p loose mean mg mb base) (hk : cs.kind = .function)
  (hdp : dp + 80 < recursionLimit) (hu : un + 200 < cLine) (htk : 0 < s.toks) (hdd : ∃ t1 t2 t3 md v, dd = rdict w.params t1 t2 t3 md v) (hA : oA.IsDictOf (strKind PySem.Challenge.rw_bq5017_02.row.prog w) (kvOf at')) (hgood : ∀ a ∈ at', GoodA a) (hlen : at'.length ≤ 100) (hsys : (dA == sysModules) = false)
  (ret : ∀ h' tk', 0 < tk' → Fr h₀ L h' m → News h₀ L h' ((o, instObj 487 d) :: (d, dd) :: (dA, oA) :: news) → Q (.bool (at'.any fun a => nameRes a.1 == some false)) { s with heap := h', toks := tk' }) :
  wpAny (model PySem.Challenge.rw_bq5017_02.row.prog w) (ktrTop dp un gd cn cs L a ccd [] []) (call (.ref 578) [.ref o, .ref dA] []) Q E s := by
  revert X XB
  k_fill
  intro X XB
  obtain ⟨t1, t2, t3, md, dv, rfl⟩ := hdd
  refine wpAny_with_toks (n := 1) htk ?_
  refine wpAny_call ?_
  k_dflt walk_at "own kts_go0"
  k_steps
  refine ⟨?_⟩
  refine render_ok (at' := at') (by k_asm) (by k_asm) (by k_asm) (by k_asm) (by k_asm) rfl (by (try dsimp only); omega) (by (try dsimp only); omega) (by (try dsimp only); omega) ⟨_, _, _, _, _, rfl⟩ hA hgood hlen hsys ?r ?b
  case r =>
    intro hall t' h' tk' htk' F' N'
    k_steps
    have e : (at'.any fun a => nameRes a.1 == some false) = false := by
      rw [List.any_eq_false]
      intro a ha
      rw [hall a ha]
      decide
    rw [e] at ret
    exact ret _ _ (by assumption) (by assumption) (subL (by assumption) (by intro p hp; repeat (first | assumption | refine List.Mem.tail _ ?_)))
  case b =>
    intro hex x G h' tk' FG RS US
    k_steps
    have e : (at'.any fun a => nameRes a.1 == some false) = true := by
      obtain ⟨a, ha, h1⟩ := hex
      rw [List.any_eq_true]
      exact ⟨a, ha, by rw [h1]; decide⟩
    rw [e] at ret
    exact ret _ _ (by assumption) (by assumption) (subL (by assumption) (by intro p hp; repeat (first | assumption | refine List.Mem.tail _ ?_)))
end
end Mine
end
section
open PySem PySem.W PyProof.Rows PySem.Calls PySem.Spec
set_option maxRecDepth 100000
set_option maxHeartbeats 8000000
set_option linter.unusedVariables false
namespace Mine
def pRow (g : Str → Bool) (rl : List Row) (v : Value) : Bool := rl.any fun x => decide (v = .ref x.1.1) && g x.2.1
def RowFun (rl : List Row) : Prop := ∀ x ∈ rl, ∀ y ∈ rl, x.1.1 = y.1.1 → x.2.1 = y.2.1 ∧ x.2.2.1 = y.2.2.1
theorem rowFun_of {h₀ h : Heap} {L : Addr} {nx : List (Addr × Obj)} {rl : List Row} (N : News h₀ L h nx) (hrl : ∀ x ∈ rl, x.1 ∈ nx ∧ RowOk x) : RowFun rl := by
  intro x hx y hy e
  obtain ⟨h1, t1, w1, k1, e1, _⟩ := hrl x hx
  obtain ⟨h2, t2, w2, k2, e2, _⟩ := hrl y hy
  have g1 := (N _ h1).1
  have g2 := (N _ h2).1
  rw [e, g2] at g1
  have g3 := Option.some.inj g1
  rw [e1, e2] at g3
  simp only [PySem.W.listOf, Obj.mk.injEq, Data.seq.injEq, Array.mk.injEq, List.cons.injEq, Value.str.injEq, and_true, true_and] at g3
  exact ⟨g3.1.1.1.symm, g3.1.2.1.symm⟩
theorem pRow_eq {g : Str → Bool} {rl : List Row} (hf : RowFun rl) {x : Row} (hx : x ∈ rl) : pRow g rl (.ref x.1.1) = g x.2.1 := by
  cases e : g x.2.1 with
  | true => exact List.any_eq_true.mpr ⟨x, hx, by simp [e]⟩
  | false =>
    refine List.any_eq_false.mpr fun y hy => ?_
    simp only [Bool.and_eq_true, decide_eq_true_eq, not_and, Bool.not_eq_true]
    intro hv
    have h1 : x.1.1 = y.1.1 := by injection hv
    rw [← (hf x hx y hy h1).1, e]
theorem filter_rows {g : Str → Bool} {rl : List Row} (hf : RowFun rl) : (rl.map fun x => Value.ref x.1.1).filter (pRow g rl) = (rl.filter fun x => g x.2.1).map fun x => Value.ref x.1.1 := by
  rw [List.filter_map]
  congr 1
  exact List.filter_congr fun x hx => pRow_eq hf hx
section
variable {prog : Program} {w : World} {A : Around} {E : Value → Shared → Prop} {s : Shared} {cenv : Env}
theorem row_name {x : Str} {p1 : Pos} {m : Str → Option Value} {v : Value} {Q : Value → Shared → Prop} (hk : cenv.scope.kind = .function) (hl : cenv.kindOf x = some .local) (hn : s.heap.Ns cenv.locals m) (hv : m x = some v) (hd : (x == ("__debug__" : Str)) = false) (h : Q v s) :
    wpAny (model prog w) A (eval (.Name x p1) cenv) Q E s := wpAny_Name (wpAny_loadName_local hk hl hn hv h) hd
theorem row_item {x : Str} {p1 p2 p3 : Pos} {u : Nat} {i : Int} {m : Str → Option Value} {r : Addr} {vs : Array Value} {kk : Nat} {v : Value} {Q : Value → Shared → Prop} (hk : cenv.scope.kind = .function) (hl : cenv.kindOf x = some .local) (hn : s.heap.Ns cenv.locals m) (hm : m x = some (.ref r)) (hd : (x == ("__debug__" : Str)) = false)
    (hr : s.heap.get? r = some (PySem.W.listOf vs kk)) (h0 : 0 ≤ i ∧ i < 1000) (hx : vs[i.toNat]? = some v) (h : Q v { s with toks := s.toks + 1 })
    (hs : subscripted (.Constant (.int i) u p2) false (.ref r) (.int i s.toks) = operate [.ref r, .int i s.toks] (getItem (.ref r) (.int i s.toks)) := by rfl) :
    wpAny (model prog w) A (eval (.Subscript (.Name x p1) (.Constant (.int i) u p2) p3) cenv) Q E s := by
  refine Subscript_ ?_
  refine row_name hk hl hn hm hd ?_
  refine wpAny_Constant_int ?_
  have hli : ({ s with toks := s.toks + 1 } : Shared).heap.IsList r vs := ⟨_, hr, rfl, _, rfl⟩
  exact subscriptTail_builtin hli.typeIs PySem.slot_list_getitem.lookup (wpAny_getItem_list hli h0.1 (by omega) hx h) hs (by intro _; rfl)
end
section
variable {prog : Program} {w : World} {A : Around} {E : Value → Shared → Prop} {s s₁ : Shared} {env cenv : Env} {K : Frag} {mg mb : Str → Option Value} {p : Program} {loose : List Str} {h₀ : Heap} {L : Addr} {m : Str → Option Value}
theorem keeps_toks (s : Shared) (k : Nat) : Keeps s { s with toks := k } := ⟨s.heap, k, rfl, fun _ _ e => e⟩
theorem rows_tests {x y : Str} {p1 p2 p3 p4 p5 : Pos} {u : Nat} {m₃ : Str → Option Value} {r rr : Addr} {n : Str} {nt : Tok} {v wv : Value} {kk nn : Nat} {vs : List Value} {ss : List Str}
    (hk : cenv.scope.kind = .function) (hl : cenv.kindOf x = some .local) (hg : cenv.kindOf y = some .globalImplicit) (hgl : cenv.globals = mainGlobals) (hd : (x == ("__debug__" : Str)) = false) (hd2 : (y == ("__debug__" : Str)) = false)
    (hn : s.heap.Ns cenv.locals m₃) (hm : m₃ x = some (.ref r)) (hr : s.heap.get? r = some (PySem.W.listOf #[.str n nt, v, wv] kk))
    (F : Fr h₀ L s.heap m) (X : K.In h₀) (T : TopRead p loose mg mb h₀) (e : nsIn K mainGlobals y = some (some (.ref rr))) (hrr : K.lookup rr = some (PySem.W.listOf vs.toArray nn)) (hi : StrsAre vs ss) :
    wpAny (model prog w) A (forIn [Expr.Compare (.Subscript (.Name x p1) (.Constant (.int 0) u p2) p3) [.In] [.Name y p4] p5] true fun c r => if r = true then do let ok ← isTrue c cenv (eval c cenv); pure (ForInStep.yield ok) else pure (ForInStep.yield r))
      (fun ok s₄ => ok = (ss.any (· == n)) ∧ Keeps s s₄) E s := by
  rw [List.forIn_cons]
  refine wpAny_bind ?_
  rw [if_pos rfl]
  refine wpAny_bind (wpAny_isTrue_Compare1 ?_)
  refine row_item (i := 0) hk hl hn hm hd hr (by decide) rfl ?_
  refine nameG_K (F := F) (K := K) X T e ?_ hgl hk hg hd2
  have hli : ({ s with toks := s.toks + 1 } : Shared).heap.IsList rr vs.toArray := ⟨_, F.keep _ _ (X _ _ hrr), rfl, _, rfl⟩
  refine in_list_strs hli hi ?_
  refine wpAny_truthy_bool ?_
  refine wpAny_pure ?_
  dsimp only
  rw [List.forIn_nil]
  exact wpAny_pure ⟨rfl, keeps_toks s _⟩
theorem places {α : Type} {l : List α} {a : Array α} (hlen : l.length = a.size) (hP : ∀ (j : Nat) (v : α), l[j]? = some v → a[j]? = some v) : l = a.toList := by
  obtain ⟨a⟩ := a
  refine List.ext_getElem? fun i => ?_
  have hP' : ∀ (j : Nat) (v : α), l[j]? = some v → a[j]? = some v := fun j v h => by simpa using hP j v h
  have hlen' : l.length = a.length := by simpa using hlen
  show l[i]? = a[i]?
  cases e : l[i]? with
  | some v => exact (hP' i v e).symm
  | none =>
    have := List.getElem?_eq_none_iff.mp e
    exact (List.getElem?_eq_none (by omega)).symm
theorem paired_eq {l₁ l₂ : List Value} (h : Paired (fun v y => y = v) l₁ l₂) : l₂ = l₁ := by
  induction h with
  | nil => rfl
  | cons e _ ih => rw [e, ih]
def rightG (ss : List Str) (n : Str) : Bool := ss.any (· == n)
def keepR (ss : List Str) (rl : List Row) : List Row := rl.filter fun x => rightG ss x.2.1
theorem rows_get {nx : List (Addr × Obj)} {h : Heap} {rl : List Row} (N : News h₀ L h nx) (hrl : ∀ x ∈ rl, x.1 ∈ nx ∧ RowOk x) {i : Nat} {v : Value} (hv : (rowRefs rl)[i]? = some v) : ∃ x ∈ rl, v = .ref x.1.1 ∧ ∃ t wv k, h.get? x.1.1 = some (PySem.W.listOf #[.str x.2.1 t, x.2.2.1, wv] k) := by
  obtain ⟨x, hx, rfl⟩ := rowRefs_get hv
  have hm := List.mem_of_getElem? hx
  obtain ⟨h1, t, wv, k, e, _⟩ := hrl x hm
  exact ⟨x, hm, rfl, t, wv, k, e ▸ (N _ h1).1⟩
theorem kept_ok {x y z rn : Str} {p1 p2 p3 p4 p5 pe px pz py pos spos : Pos} {u : Nat} {scope : Scope} {rr R : Addr} {nn nR : Nat} {vs : List Value} {ss : List Str} {rl : List Row} {nx : List (Addr × Obj)} {Q : Flow → Shared → Prop}
    (hL : env.locals = L) (hh : A.handled = none) (hek : env.scope.kind = .function) (hgl : env.globals = mainGlobals)
    (hsw : swapsWith (.ListComp (.Name x pe) [⟨.Name x px, .Name z pz, [Expr.Compare (.Subscript (.Name x p1) (.Constant (.int 0) u p2) p3) [.In] [.Name rn p4] p5], 0⟩] scope pos) (some (.Name y py)) spos.line env = pure true)
    (hclos : closureFor scope env = pure []) (hcell : ∀ z ∈ scope.names, z.2 ≠ .cell) (hkind : scope.kind = .function)
    (hnames : ∀ z ∈ scope.names, z.2 = .local → scope.names.lookup z.1 = some .local) (hx : scope.names.lookup x = some .local) (hrn : ∀ C, (compEnvC scope [] C env).kindOf rn = some .globalImplicit)
    (hy : env.kindOf y = some .local) (hz : env.kindOf z = some .local) (hp : (env.scope.kind == .class || (env.scope.kind == .module && env.locals != env.globals)) = false)
    (hdx : (x == ("__debug__" : Str)) = false) (hdz : (z == ("__debug__" : Str)) = false) (hdr : (rn == ("__debug__" : Str)) = false)
    (F : Fr h₀ L s.heap m) (N : News h₀ L s.heap nx) (X : K.In h₀) (T : TopRead p loose mg mb h₀) (e : nsIn K mainGlobals rn = some (some (.ref rr))) (hrr : K.lookup rr = some (PySem.W.listOf vs.toArray nn)) (hi : StrsAre vs ss)
    (hm : m z = some (.ref R)) (hR : (R, PySem.W.listOf (rowRefs rl) nR) ∈ nx) (hrl : ∀ x ∈ rl, x.1 ∈ nx ∧ RowOk x) (hlen : rl.length ≤ 1000)
    (ret : ∀ D nD h' tk, (∀ p ∈ nx, p.1 ≠ D) → Fr h₀ L h' (fun q => if q = y then some (.ref D) else m q) → News h₀ L h' ((D, PySem.W.listOf (rowRefs (keepR ss rl)) nD) :: nx) → Q .next { s with heap := h', toks := tk })
    (hs : ∀ v, foldedSetIterable (.Name z pz) env v = pure v := by intro _; rfl) :
    wpAny (model prog w) A (exec (.Assign [.Name y py] (.ListComp (.Name x pe) [⟨.Name x px, .Name z pz, [Expr.Compare (.Subscript (.Name x p1) (.Constant (.int 0) u p2) p3) [.In] [.Name rn p4] p5], 0⟩] scope pos) spos) env) Q E s := by
  subst hL
  have hf := rowFun_of N hrl
  have hl : s.heap.IsList R (rowRefs rl) := ⟨_, (N _ hR).1, rfl, _, rfl⟩
  have hlt : R < s.heap.objs.size := Heap.lt_size (N _ hR).1
  refine wpAny_Assign_ListComp_free (pRow (rightG ss) rl) (fun v y => y = v) hsw hclos hcell hkind hnames hx hy hp ?_ hs
  refine row_name hek hz F.ns hm hdz ?_
  refine wpAny_pyIter_list hl ?_
  have up : ∀ (s₃ : Shared), (∀ b o, b ∉ [s.heap.objs.size] → (s.heap.push { cls := .type "list_iterator", data := .fields #[.ref R, .int 0 0] }).get? b = some o → s₃.heap.get? b = some o) → ∀ b o, s.heap.get? b = some o → s₃.heap.get? b = some o :=
    fun s₃ hk b o e => hk b o (fun hm => by rcases List.mem_cons.mp hm with rfl | hm; exact Nat.lt_irrefl _ (Heap.lt_size e); cases hm) (Heap.get?_push_of_some _ e)
  have hLf : env.locals ∉ [s.heap.objs.size] := fun hm => by
    rcases List.mem_cons.mp hm with e | hm
    · exact Nat.lt_irrefl _ (e ▸ F.ns.lt)
    · cases hm
  refine ⟨s.heap.objs.size, [s.heap.objs.size, R], [s.heap.objs.size], (rowRefs rl).size, _, _, m, rfl, Walks.list hh _ _ (Nat.ne_of_lt hlt) (rowRefs rl), by rw [rowRefs_size, sizeLine_eq]; omega, ⟨⟨_, Heap.get?_push_size _ rfl, rfl, rfl⟩, hl.at fun o e => Heap.get?_push_of_some _ e⟩, ?_, hLf, F.ns.push _, ⟨?_, ?_⟩, ?_⟩
  · intro b hb
    show b < (s.heap.push _).objs.size
    rw [Heap.size_push]
    rcases List.mem_cons.mp hb with rfl | hb
    · exact Nat.lt_succ_self _
    · rcases List.mem_cons.mp hb with rfl | hb
      · exact Nat.lt_succ_of_lt hlt
      · cases hb
  · intro C i v s₃ m₃ E' hC hP hn hm₃ hk htk
    have k3 := up s₃ hk
    obtain ⟨r, hr, rfl, t, wv, kk, hget⟩ := rows_get (N.grown k3) hrl hP
    rw [pRow_eq hf hr]
    exact rows_tests (cenv := compEnvC scope [] C env) (by simp [compEnvC, relabel, hkind]) (lookup_relabel_local hx) (hrn C) hgl hdx hdr hn hm₃ hget (F.keeps k3) X T e hrr hi
  · intro C i v s₃ m₃ E' hC hP hpv hn hm₃ hk htk
    exact row_name (cenv := compEnvC scope [] C env) (by simp [compEnvC, relabel, hkind]) (lookup_relabel_local hx) hn hm₃ hdx ⟨rfl, s₃.heap, s₃.toks, rfl, fun _ _ e => e⟩
  · intro D h' tk ys vs' hD hlD hpl hlen' hP hF hns hk
    have hk' : ∀ b o, b ≠ env.locals → s.heap.get? b = some o → h'.get? b = some o := fun b o hb e => hk b o hb (fun hm => by rcases List.mem_cons.mp hm with rfl | hm; exact Nat.lt_irrefl _ (Heap.lt_size e); cases hm) (Heap.get?_push_of_some _ e)
    have e1 : vs' = (rowRefs rl).toList := places hlen' hP
    have e2 : ys.toList = (keepR ss rl).map fun x => Value.ref x.1.1 := by
      rw [paired_eq hF, e1]
      exact filter_rows hf
    have e3 : ys = rowRefs (keepR ss rl) := by
      unfold rowRefs
      rw [← e2]
    obtain ⟨nD, hgD⟩ := hpl
    rw [e3] at hgD
    have hDL : D ≠ env.locals := by
      rintro rfl
      obtain ⟨o, _, _, ho, _⟩ := F.ns
      rw [Heap.get?_push_of_some _ ho] at hD
      cases hD
    refine ret D nD h' tk (fun q hq => ?_) ⟨hns, fun b o e => hk' b o (Nat.ne_of_lt (Nat.lt_of_lt_of_le (Heap.lt_size e) F.above)) (F.keep b o e), F.above⟩ (fun q hq => ?_)
    · rintro rfl
      rw [Heap.get?_push_of_some _ (N q hq).1] at hD
      cases hD
    · rcases List.mem_cons.mp hq with rfl | hq
      · refine ⟨hgD, hDL, ?_⟩
        cases e5 : h₀.get? D with
        | none => rfl
        | some o' => rw [Heap.get?_push_of_some _ (F.keep _ _ e5)] at hD; cases hD
      · exact ⟨hk' _ _ (N q hq).2.1 (N q hq).1, (N q hq).2⟩
theorem newDict_elim {P P' : Value → Shared → Prop} (h : wpAny (model prog w) A newDict P E s) (k : P (.ref s.heap.objs.size) { s with heap := s.heap.push { cls := .type "dict", dict := none, data := .dict #[] } } → P' (.ref s.heap.objs.size) { s with heap := s.heap.push { cls := .type "dict", dict := none, data := .dict #[] } }) : wpAny (model prog w) A newDict P' E s := fun Γ q hΓ => k (h Γ q hΓ)
theorem stored_new {kvs : List (Str × Value)} {k : Str} {v : Value} (h : k ∉ kvs.map (·.1)) : stored kvs k v = kvs ++ [(k, v)] := by
  unfold stored
  rw [if_neg]
  intro hc
  obtain ⟨kv, hkv, e⟩ := List.any_eq_true.mp hc
  exact h (List.mem_map.mpr ⟨kv, hkv, of_decide_eq_true e⟩)
def FKr (rl : List Row) (v : Value) (k : Str) : Prop := ∃ x ∈ rl, v = .ref x.1.1 ∧ k = x.2.1
def FVr (rl : List Row) (v y : Value) : Prop := ∃ x ∈ rl, v = .ref x.1.1 ∧ y = x.2.2.1
theorem stored_rows {rl : List Row} (hf : RowFun rl) {l : List Value} {kvs : List (Str × Value)} (h : StoredAll (FKr rl) (FVr rl) l kvs) : ∀ xs : List Row, (∀ x ∈ xs, x ∈ rl) → l = xs.map (fun x => Value.ref x.1.1) → (xs.map fun x => x.2.1).Nodup → kvs = xs.map fun x => (x.2.1, x.2.2.1) := by
  induction h with
  | nil =>
    intro xs _ e _
    cases xs with
    | nil => rfl
    | cons _ _ => cases e
  | @snoc l kvs v k y hs hk hy ih =>
    intro xs hsub e hn
    rcases List.eq_nil_or_concat xs with rfl | ⟨ys, x, rfl⟩
    · have := congrArg List.length e
      simp at this
    · rw [List.concat_eq_append] at e hsub hn ⊢
      rw [List.map_append] at e
      obtain ⟨e1, e2⟩ := List.append_inj' e rfl
      have hv : v = .ref x.1.1 := by simpa using e2
      have hx : x ∈ rl := hsub x (by simp)
      obtain ⟨a, ha, hva, hka⟩ := hk
      obtain ⟨b, hb, hvb, hyb⟩ := hy
      have h1 : x.1.1 = a.1.1 := by rw [hv] at hva; injection hva
      have h2 : x.1.1 = b.1.1 := by rw [hv] at hvb; injection hvb
      rw [List.map_append, List.nodup_append] at hn
      have e3 := ih ys (fun z hz => hsub z (by simp [hz])) e1 hn.1
      rw [e3, hka, hyb, ← (hf x hx a ha h1).1, ← (hf x hx b hb h2).2, stored_new]
      · simp
      · intro hm
        rw [List.map_map] at hm
        exact hn.2.2 _ hm x.2.1 (by simp) rfl
theorem good_ok {x y z rn : Str} {p1 p2 p3 p4 p5 k1 k2 k3 v1 v2 v3 px pz py pos spos : Pos} {u ku vu : Nat} {scope : Scope} {rr R : Addr} {nn nR : Nat} {vs : List Value} {ss : List Str} {rl : List Row} {nx : List (Addr × Obj)} {Q : Flow → Shared → Prop}
    (hL : env.locals = L) (hh : A.handled = none) (hek : env.scope.kind = .function) (hgl : env.globals = mainGlobals)
    (hsw : swapsWith (.DictComp (.Subscript (.Name x k1) (.Constant (.int 0) ku k2) k3) (.Subscript (.Name x v1) (.Constant (.int 1) vu v2) v3) [⟨.Name x px, .Name z pz, [Expr.Compare (.Subscript (.Name x p1) (.Constant (.int 0) u p2) p3) [.In] [.Name rn p4] p5], 0⟩] scope pos) (some (.Name y py)) spos.line env = pure true)
    (hclos : closureFor scope env = pure []) (hcell : ∀ z ∈ scope.names, z.2 ≠ .cell) (hkind : scope.kind = .function)
    (hnames : ∀ z ∈ scope.names, z.2 = .local → scope.names.lookup z.1 = some .local) (hx : scope.names.lookup x = some .local) (hrn : ∀ C, (compEnvC scope [] C env).kindOf rn = some .globalImplicit)
    (hy : env.kindOf y = some .local) (hz : env.kindOf z = some .local) (hp : (env.scope.kind == .class || (env.scope.kind == .module && env.locals != env.globals)) = false)
    (hdx : (x == ("__debug__" : Str)) = false) (hdz : (z == ("__debug__" : Str)) = false) (hdr : (rn == ("__debug__" : Str)) = false)
    (F : Fr h₀ L s.heap m) (N : News h₀ L s.heap nx) (X : K.In h₀) (T : TopRead p loose mg mb h₀) (hbig : sysModules < h₀.objs.size) (e : nsIn K mainGlobals rn = some (some (.ref rr))) (hrr : K.lookup rr = some (PySem.W.listOf vs.toArray nn)) (hi : StrsAre vs ss)
    (hm : m z = some (.ref R)) (hR : (R, PySem.W.listOf (rowRefs rl) nR) ∈ nx) (hrl : ∀ x ∈ rl, x.1 ∈ nx ∧ RowOk x) (hlen : rl.length ≤ 1000) (hnd : (rl.map fun x => x.2.1).Nodup)
    (ret : ∀ D oD h' tk, (∀ p ∈ nx, p.1 ≠ D) → (D == sysModules) = false → oD.IsDictOf (PySem.strKind prog w) (kvOf ((keepR ss rl).map (·.2))) → Fr h₀ L h' (fun q => if q = y then some (.ref D) else m q) → News h₀ L h' ((D, oD) :: nx) → Q .next { s with heap := h', toks := tk })
    (hs : ∀ v, foldedSetIterable (.Name z pz) env v = pure v := by intro _; rfl) :
    wpAny (model prog w) A (exec (.Assign [.Name y py] (.DictComp (.Subscript (.Name x k1) (.Constant (.int 0) ku k2) k3) (.Subscript (.Name x v1) (.Constant (.int 1) vu v2) v3) [⟨.Name x px, .Name z pz, [Expr.Compare (.Subscript (.Name x p1) (.Constant (.int 0) u p2) p3) [.In] [.Name rn p4] p5], 0⟩] scope pos) spos) env) Q E s := by
  subst hL
  have hf := rowFun_of N hrl
  have hl : s.heap.IsList R (rowRefs rl) := ⟨_, (N _ hR).1, rfl, _, rfl⟩
  have hlt : R < s.heap.objs.size := Heap.lt_size (N _ hR).1
  rw [exec_Assign_Name_used _ _ _ _ hsw]
  refine wpAny_bind (wpAny_standAt (wpAny_bind ?_))
  show wpAny _ A (do let _ ← comprehension (.DictComp _ _ [⟨.Name x px, .Name z pz, _, 0⟩] scope pos) scope env _ newDict false (eval (.Name z pz) env) (some (assign (.Name y py) env))) _ _ s
  refine wpAny_bind (wpAny_mono (wpAny_comprehension_free (use := some (assign (.Name y py) env)) (Q := fun _ s' => Q .next s') rfl hs hclos hkind hnames
    (row_name hek hz F.ns hm hdz (wpAny_pyIter_list hl ?_))) (fun _ s' hq => wpAny_pure (wpAny_pure hq)) fun _ _ e => e)
  have up : ∀ (s₃ : Shared), (∀ b o, b ∉ [s.heap.objs.size] → (s.heap.push { cls := .type "list_iterator", data := .fields #[.ref R, .int 0 0] }).get? b = some o → s₃.heap.get? b = some o) → ∀ b o, s.heap.get? b = some o → s₃.heap.get? b = some o :=
    fun s₃ hk b o e => hk b o (fun hm => by rcases List.mem_cons.mp hm with rfl | hm; exact Nat.lt_irrefl _ (Heap.lt_size e); cases hm) (Heap.get?_push_of_some _ e)
  have hLf : env.locals ∉ [s.heap.objs.size] := fun hm => by
    rcases List.mem_cons.mp hm with e | hm
    · exact Nat.lt_irrefl _ (e ▸ F.ns.lt)
    · cases hm
  have lk : ∀ C, (compEnvC scope [] C env).kindOf x = some .local := fun C => lookup_relabel_local hx
  have fk : ∀ C, (compEnvC scope [] C env).scope.kind = .function := fun C => by simp [compEnvC, relabel, hkind]
  have H := comp_block_walkCD (knd := PySem.strKind prog w) (A := A) (E := E) (env := env) (kx := .Subscript (.Name x k1) (.Constant (.int 0) ku k2) k3) (vx := .Subscript (.Name x v1) (.Constant (.int 1) vu v2) v3) (iter := .Name z pz) (x := x) (px := px) (ifs := [Expr.Compare (.Subscript (.Name x p1) (.Constant (.int 0) u p2) p3) [.In] [.Name rn p4] p5]) (scope := scope) (cl := []) (pos := pos)
    (s₂ := { s with heap := s.heap.push { cls := .type "list_iterator", data := .fields #[.ref R, .int 0 0] } })
    (Walks.list (prog := prog) (w := w) hh s.heap.objs.size R (Nat.ne_of_lt hlt) (rowRefs rl)) (by rw [rowRefs_size, sizeLine_eq]; omega) (pRow (rightG ss) rl) (FKr rl) (FVr rl)
    (RR := fun acc C r s' => acc = .ref (s.heap.push { cls := .type "list_iterator", data := .fields #[.ref R, .int 0 0] }).objs.size → compPost (model prog w) A E (some (assign (.Name y py) env)) (fun _ s' => Q .next s') acc C r s') hcell hkind hx
    ⟨⟨_, Heap.get?_push_size _ rfl, rfl, rfl⟩, hl.at fun o e => Heap.get?_push_of_some _ e⟩ ?_ ⟨?_, ?_, ?_⟩ ?_
  · exact newDict_elim H (fun h => wpAny_mono h (fun cenv s₄ h4 => codeAny_mono h4 (fun r s' hr => hr rfl)) fun _ _ e => e)
  · intro b hb
    show b < (s.heap.push _).objs.size
    rw [Heap.size_push]
    rcases List.mem_cons.mp hb with rfl | hb
    · exact Nat.lt_succ_self _
    · rcases List.mem_cons.mp hb with rfl | hb
      · exact Nat.lt_succ_of_lt hlt
      · cases hb
  · intro C i v s₃ m₃ E' hP hn hm₃ hk
    have k3 := up s₃ hk
    obtain ⟨r, hr, rfl, t, wv, kk, hget⟩ := rows_get (N.grown k3) hrl hP
    rw [pRow_eq hf hr]
    exact rows_tests (cenv := compEnvC scope [] C env) (fk C) (lk C) (hrn C) hgl hdx hdr hn hm₃ hget (F.keeps k3) X T e hrr hi
  · intro C i v s₃ m₃ E' hP hpv hn hm₃ hk
    have k3 := up s₃ hk
    obtain ⟨r, hr, rfl, t, wv, kk, hget⟩ := rows_get (N.grown k3) hrl hP
    exact row_item (cenv := compEnvC scope [] C env) (i := 0) (fk C) (lk C) hn hm₃ hdx hget (by decide) rfl ⟨⟨r.2.1, strKind_is _ _ _ _, r, hr, rfl, rfl⟩, keeps_toks s₃ _⟩
  · intro C i v s₃ m₃ E' hP hpv hn hm₃ hk
    have k3 := up s₃ hk
    obtain ⟨r, hr, rfl, t, wv, kk, hget⟩ := rows_get (N.grown k3) hrl hP
    exact row_item (cenv := compEnvC scope [] C env) (i := 1) (fk C) (lk C) hn hm₃ hdx hget (by decide) rfl ⟨⟨r, hr, rfl, rfl⟩, keeps_toks s₃ _⟩
  · intro D C h' tk m' kvs vs' hD hC hDC hnC hlD hlen' hP hF hk hacc
    have e1 : vs' = (rowRefs rl).toList := places hlen' hP
    have e2 : vs'.filter (pRow (rightG ss) rl) = (keepR ss rl).map fun x => Value.ref x.1.1 := by
      rw [e1]
      exact filter_rows hf
    have hsub : (keepR ss rl).Sublist rl := List.filter_sublist
    have e3 : kvs = kvOf ((keepR ss rl).map (·.2)) := by
      have := stored_rows hf hF (keepR ss rl) (fun x hx => hsub.subset hx) e2 (List.Nodup.sublist (List.Sublist.map _ hsub) hnd)
      rw [this]
      unfold kvOf
      rw [List.map_map]
      rfl
    have hn : (s.heap.push { cls := .type "list_iterator", data := .fields #[.ref R, .int 0 0] }).Ns env.locals m := F.ns.push _
    have hLC : env.locals ≠ C := by rintro rfl; obtain ⟨o, _, _, ho, _⟩ := hn; rw [hC] at ho; cases ho
    have hLD : env.locals ≠ D := by rintro rfl; obtain ⟨o, _, _, ho, _⟩ := hn; rw [hD] at ho; cases ho
    have hDs : (D == sysModules) = false := by
      have : D = (s.heap.push { cls := .type "list_iterator", data := .fields #[.ref R, .int 0 0] }).objs.size := by injection hacc
      rw [this]
      exact (F.push _).notModules hbig
    show wpAny _ A (assign (.Name y py) env (.ref D)) _ _ _
    refine wpAny_assign_Name (wpAny_storeName_local hy (hn.at' fun o e => hk _ o hLf e) (fun h₂ hn₂ hs₂ => ?_) hp)
    refine ⟨m', hnC.sameBut hs₂ (Ne.symm hLC), fun h₃ hs₃ => ?_⟩
    have keep : ∀ b o, b ≠ env.locals → s.heap.get? b = some o → h₃.get? b = some o := fun b o hb e =>
      hs₃.extBut b o (by rintro rfl; rw [Heap.get?_push_of_some _ e] at hC; cases hC) (hs₂.extBut b o hb (up { s with heap := h' } hk b o e))
    have hD3 := (hlD.extBut hs₂.extBut (Ne.symm hLD)).extBut hs₃.extBut hDC
    obtain ⟨oD, hgD, hdD⟩ := Heap.dictOf_iff.mp hD3
    rw [e3] at hdD
    refine ret D oD h₃ _ (fun q hq => ?_) hDs hdD ⟨hn₂.sameBut hs₃ hLC, fun b o e => keep b o (Nat.ne_of_lt (Nat.lt_of_lt_of_le (Heap.lt_size e) F.above)) (F.keep b o e), F.above⟩ (fun q hq => ?_)
    · rintro rfl
      rw [Heap.get?_push_of_some _ (N q hq).1] at hD
      cases hD
    · rcases List.mem_cons.mp hq with rfl | hq
      · refine ⟨hgD, Ne.symm hLD, ?_⟩
        cases e5 : h₀.get? D with
        | none => rfl
        | some o' => rw [Heap.get?_push_of_some _ (F.keep _ _ e5)] at hD; cases hD
      · exact ⟨keep _ _ (N q hq).2.1 (N q hq).1, (N q hq).2⟩
end
end Mine
end
section
open PySem PySem.W PyProof.Rows PySem.Calls PySem.Spec
set_option maxRecDepth 100000
set_option maxHeartbeats 8000000
set_option linter.unusedVariables false
namespace Mine
theorem empty_app (x : Str) : Str.ofString "" ++ x = x := PySem.Str.empty_append x
theorem app_empty (x : Str) : x ++ Str.ofString "" = x := PySem.Str.append_empty x
/-- the texts of a list, one behind the other -/
def catS : List Str → Str
  | [] => Str.ofString ""
  | x :: r => x ++ catS r
theorem join_cat : ∀ l : List Str, Txt.join (Str.ofString "") l = catS l := by
  intro l
  show Builtin.Str.glued (Str.ofString "") l = _
  rw [StrLaws.glued_eq_join]
  induction l with
  | nil => rfl
  | cons x r ih =>
    cases r with
    | nil => exact (app_empty x).symm
    | cons y r' =>
      show x ++ Str.ofString "" ++ Str.join (Str.ofString "") (y :: r') = x ++ catS (y :: r')
      rw [ih, app_empty]
theorem cat_append (a b : List Str) : catS (a ++ b) = catS a ++ catS b := by
  induction a with
  | nil => exact (empty_app _).symm
  | cons x r ih => show x ++ catS (r ++ b) = x ++ catS r ++ catS b; rw [ih, app_assoc]
theorem wstep_cat (told : Str) (a : At) : wstep told a = told ++ catS (pieceOf a.1 a.2.2) := by
  obtain ⟨n, v, wr⟩ := a
  unfold wstep
  dsimp only
  cases wr with
  | skip => exact (app_empty told).symm
  | alone => show told ++ Str.ofString " " ++ n = told ++ (Str.ofString " " ++ n ++ Str.ofString ""); rw [app_empty, app_assoc]
  | txt y => show told ++ Str.ofString " " ++ n ++ Str.ofString "=\"" ++ y ++ Str.ofString "\"" = told ++ ((Str.ofString " " ++ n ++ Str.ofString "=\"" ++ y ++ Str.ofString "\"") ++ Str.ofString ""); rw [app_empty]; simp only [app_assoc]
theorem foldl_cat : ∀ (l : List At) (told : Str), l.foldl wstep told = told ++ catS (piecesOf l) := by
  intro l
  induction l with
  | nil => intro told; exact (app_empty told).symm
  | cons a r ih =>
    intro told
    rw [List.foldl_cons, ih, wstep_cat, app_assoc]
    show told ++ (catS (pieceOf a.1 a.2.2) ++ catS (piecesOf r)) = told ++ catS (pieceOf a.1 a.2.2 ++ piecesOf r)
    rw [cat_append]
/-- the plain law of the written attributes -/
theorem join_wtxt (l : List At) : Txt.join (Str.ofString "") (piecesOf l) = wtxt l := by
  rw [join_cat]
  unfold wtxt
  rw [foldl_cat, empty_app]
def rightL : List Str := [Str.ofString "a", Str.ofString "Z", Str.ofString "_", Str.ofString ":", Str.ofString "href", Str.ofString "data-x", Str.ofString "x.y", Str.ofString "a:b", Str.ofString "_9", Str.ofString "A1-_.:", Str.ofString "xmlns:xlink"]
def wrongL : List Str := [Str.ofString "", Str.ofString "1a", Str.ofString "-a", Str.ofString ".a", Str.ofString "a b", Str.ofString "a\n", Str.ofString "\na", Str.ofString "a=", Str.ofString "a\"", Str.ofString "a>", Str.ofString "a\t", Str.ofString "é", Str.ofString "aé", Str.ofString "a/", Str.ofString " a", Str.ofString "a'", Str.ofString "a<"]
def NameOk (n : Str) (wr : Bool) : Prop := n.length ≤ 100 ∧ nameRes n = some (!wr) ∧ rightG rightL n = !wr
def nameChk (n : Str) (wr : Bool) : Bool := decide (n.length ≤ 100) && (nameRes n == some (!wr)) && (rightG rightL n == !wr)
theorem nameChk_ok {n : Str} {wr : Bool} (h : nameChk n wr = true) : NameOk n wr := by
  unfold nameChk at h
  simp only [Bool.and_eq_true, decide_eq_true_eq, beq_iff_eq] at h
  exact ⟨h.1.1, h.1.2, h.2⟩
theorem rightL_chk : (rightL.all fun n => nameChk n false) = true := by decide +kernel
theorem wrongL_chk : (wrongL.all fun n => nameChk n true) = true := by decide +kernel
theorem strs_mem {vs : List Value} {ss : List Str} (hi : StrsAre vs ss) : ∀ {v : Value}, v ∈ vs → ∃ n ∈ ss, ∃ t, v = .str n t := by
  induction hi with
  | nil => intro v h; cases h
  | cons y t h ih =>
    intro v hv
    rcases List.mem_cons.mp hv with rfl | hv
    · exact ⟨y, .head _, t, rfl⟩
    · obtain ⟨n, hn, t', e⟩ := ih hv
      exact ⟨n, .tail _ hn, t', e⟩
theorem rightL_ok {n : Str} (h : n ∈ rightL) : NameOk n false := nameChk_ok (List.all_eq_true.mp rightL_chk n h)
theorem wrongL_ok {n : Str} (h : n ∈ wrongL) : NameOk n true := nameChk_ok (List.all_eq_true.mp wrongL_chk n h)
def anyBad (rl : List Row) : Bool := rl.any fun x => nameRes x.2.1 == some false
def RowsOk (rl : List Row) : Prop := ∀ x ∈ rl, RowOk x ∧ GoodA x.2 ∧ rightG rightL x.2.1 = (nameRes x.2.1 == some true)
theorem anyBad_at (rl : List Row) : ((rl.map (·.2)).any fun a => nameRes a.1 == some false) = anyBad rl := by
  unfold anyBad
  rw [List.any_map]
  rfl
theorem keep_all {rl : List Row} (h : RowsOk rl) : ∀ a ∈ (keepR rightL rl).map (·.2), nameRes a.1 = some true := by
  intro a ha
  obtain ⟨x, hx, rfl⟩ := List.mem_map.mp ha
  obtain ⟨hx1, hx2⟩ := List.mem_filter.mp hx
  rw [(h x hx1).2.2] at hx2
  exact eq_of_beq hx2
theorem keep_sub {rl : List Row} {x : Row} (h : x ∈ keepR rightL rl) : x ∈ rl := (List.mem_filter.mp h).1
theorem keep_len (rl : List Row) : (keepR rightL rl).length ≤ rl.length := List.length_filter_le _ _
theorem no_bad {rl : List Row} (h : RowsOk rl) (hb : anyBad rl = false) : ∀ a ∈ rl.map (·.2), nameRes a.1 = some true := by
  intro a ha
  obtain ⟨x, hx, rfl⟩ := List.mem_map.mp ha
  have h1 := List.any_eq_false.mp hb x hx
  rcases (h x hx).2.1.2.1 with h2 | h2
  · exact h2
  · rw [h2] at h1
    exact absurd (beq_self_eq_true _) h1
section
variable {prog : Program} {w : World} {A : Around} {E : Value → Shared → Prop} {s : Shared} {h₀ : Heap} {L : Addr} {m : Str → Option Value} {news : List (Addr × Obj)}
theorem rangeT {n : Int} {t : Tok} {Q : Value → Shared → Prop} (F : Fr h₀ L s.heap m) (N : News h₀ L s.heap news) (h0 : 0 < s.toks)
    (h : ∀ r h' tk t₁ u₁ v₁, 0 < tk → IsRange h' r 0 n 1 t₁ u₁ v₁ → Fr h₀ L h' m → News h₀ L h' news → Q (.ref r) { s with heap := h', toks := tk }) :
    wpAny (model prog w) A (call (.type "range") [.int n t]) Q E s :=
  wpAny_with_toks (n := 1) h0 (range1_rows F N fun h' tk t₁ u₁ v₁ hr F' N' _ htk => h _ h' tk t₁ u₁ v₁ htk hr F' N')
end
structure Base (b l x1 x0 : Addr) (P : Params) (rest : List (Addr × Obj)) : Prop where
  lin : ∃ k, (l, PySem.W.listOf #[.ref x1, .ref x0] k) ∈ rest
  r1 : ∃ d t1 t2 t3 md, (x1, instObj 487 d) ∈ rest ∧ (d, rdict P t1 t2 t3 md (.bool true)) ∈ rest
  r0 : ∃ d t1 t2 t3 md, (x0, instObj 487 d) ∈ rest ∧ (d, rdict P t1 t2 t3 md (.bool false)) ∈ rest
  tab : ∃ ps, (269, tabObj ps) ∈ rest
  ne : x0 ≠ x1
  off : ∀ p ∈ rest, p.1 ≠ b
theorem base_of {h₀ h : Heap} {L l x1 x0 d1 d0 b S md0 md1 : Addr} {k n : Nat} {P : Params} {ta0 tb0 tc0 ta1 tb1 tc1 t1 t2 : Tok} {pl st : Int} {ps : Array Value} (N : News h₀ L h [(l, PySem.W.listOf #[.ref x1, .ref x0] k), (x0, instObj 487 d0), (d0, rdict P ta0 tb0 tc0 md0 (.bool false)), (x1, instObj 487 d1), (d1, rdict P ta1 tb1 tc1 md1 (.bool true)), (b, PySem.W.listOf #[.ref S, .int pl t1, .int st t2] n), (269, tabObj ps)])
    (h1 : 0 ≤ pl) (h2 : 0 ≤ st) (h3 : st < 2147483647) (f1 : @LT.lt Nat _ x1 x0) (f2 : @LT.lt Nat _ b l) (f3 : @LT.lt Nat _ b x0) (f4 : @LT.lt Nat _ b d0) (f5 : @LT.lt Nat _ b x1) (f6 : @LT.lt Nat _ b d1) (f7 : @LT.lt Nat _ 269 b) :
    ∃ l' x1' x0' b' S' ob rest, l' = l ∧ x1' = x1 ∧ x0' = x0 ∧ b' = b ∧ S' = S ∧ BoxO S ob ∧ Base b l x1 x0 P rest ∧ News h₀ L h ((b, ob) :: rest) := by
  have e1 : x0 ≠ x1 := Nat.ne_of_gt f1
  have e2 : l ≠ b := Nat.ne_of_gt f2
  have e3 : x0 ≠ b := Nat.ne_of_gt f3
  have e4 : d0 ≠ b := Nat.ne_of_gt f4
  have e5 : x1 ≠ b := Nat.ne_of_gt f5
  have e6 : d1 ≠ b := Nat.ne_of_gt f6
  have e7 : (269 : Addr) ≠ b := Nat.ne_of_lt f7
  refine ⟨l, x1, x0, b, S, _, [(l, PySem.W.listOf #[.ref x1, .ref x0] k), (x0, instObj 487 d0), (d0, rdict P ta0 tb0 tc0 md0 (.bool false)), (x1, instObj 487 d1), (d1, rdict P ta1 tb1 tc1 md1 (.bool true)), (269, tabObj ps)], rfl, rfl, rfl, rfl, rfl, ⟨pl, st, t1, t2, n, rfl, h1, h2, h3⟩, ⟨⟨k, by simp⟩, ⟨d1, _, _, _, _, by simp, .tail _ (.tail _ (.tail _ (.tail _ (.head _))))⟩, ⟨d0, _, _, _, _, by simp, .tail _ (.tail _ (.head _))⟩, ⟨ps, by simp⟩, e1, ?_⟩, ?_⟩
  · intro p hp
    simp only [List.mem_cons, List.not_mem_nil, or_false] at hp
    rcases hp with rfl | rfl | rfl | rfl | rfl | rfl
    · exact e2
    · exact e3
    · exact e4
    · exact e5
    · exact e6
    · exact e7
  · intro p hp
    refine N p ?_
    simp only [List.mem_cons, List.not_mem_nil, or_false] at hp ⊢
    rcases hp with rfl | rfl | rfl | rfl | rfl | rfl | rfl <;> simp
def outNames : List Str := [Str.ofString "renderer", Str.ofString "rows", Str.ofString "attrs", Str.ofString "bad", Str.ofString "turn2", Str.ofString "wrong", Str.ofString "name", Str.ofString "value", Str.ofString "written", Str.ofString "good", Str.ofString "kept"]
def OJ (S b : Addr) (rest : List (Addr × Obj)) (m2 : Str → Option Value) (i : Nat) (m' : Str → Option Value) (nx : List (Addr × Obj)) : Prop :=
  ∃ ob rt, nx = (b, ob) :: rest ∧ BoxO S ob ∧ (∀ p ∈ [(Str.ofString "rounds", Value.int (i : Int) rt)], m' p.1 = some p.2) ∧ (∀ z, z ≠ Str.ofString "turn" → (∀ p ∈ [(Str.ofString "rounds", Value.int (i : Int) rt)], z ≠ p.1) → outNames.contains z = false → m' z = m2 z)
theorem OJ0 {S b : Addr} {rest : List (Addr × Obj)} {m2 : Str → Option Value} {ob : Obj} {t : Tok} (hb : BoxO S ob) (h : m2 (Str.ofString "rounds") = some (.int 0 t)) : OJ S b rest m2 0 m2 ((b, ob) :: rest) :=
  ⟨ob, t, rfl, hb, fun p hp => by rw [List.mem_singleton.mp hp]; exact h, fun _ _ _ _ => rfl⟩
def RSel (P : Params) (x1 : Addr) (rest : List (Addr × Obj)) (v : Value) : Prop := ∃ o d t1 t2 t3 md plain, v = .ref o ∧ (o, instObj 487 d) ∈ rest ∧ (d, rdict P t1 t2 t3 md (.bool plain)) ∈ rest ∧ (o == x1) = plain
theorem rsel_of {b l x1 x0 : Addr} {P : Params} {rest : List (Addr × Obj)} (H : Base b l x1 x0 P rest) {v : Value} (h : v ∈ #[Value.ref x1, Value.ref x0]) : RSel P x1 rest v := by
  simp only [List.mem_toArray, List.mem_cons, List.not_mem_nil, or_false] at h
  rcases h with rfl | rfl
  · obtain ⟨d, t1, t2, t3, md, h1, h2⟩ := H.r1
    exact ⟨_, d, t1, t2, t3, md, true, rfl, h1, h2, beq_self_eq_true _⟩
  · obtain ⟨d, t1, t2, t3, md, h1, h2⟩ := H.r0
    exact ⟨_, d, t1, t2, t3, md, false, rfl, h1, h2, beq_eq_false_iff_ne.mpr H.ne⟩
theorem joinN {M : Model} {A : Around} {t : Sem Value} {E : Value → Shared → Prop} {Q : Value → Shared → Prop} {S b : Addr} {R : Value → Prop} {h₀ : Heap} {L : Addr} {m : Str → Option Value} {ob0 : Obj} {rest : List (Addr × Obj)} {s : Shared} (F : Fr h₀ L s.heap m) (_N : News h₀ L s.heap ((b, ob0) :: rest))
    (h : wpAny M A t (fun v s' => JB S b R h₀ L m rest s v s') E s) (k : ∀ v ob' h' tk', R v → 0 < tk' → BoxO S ob' → Fr h₀ L h' m → News h₀ L h' ((b, ob') :: rest) → Q v { s with heap := h', toks := tk' }) : wpAny M A t Q E s := joinB F h k
theorem inner_named {h₀ h : Heap} {L Ad R b : Addr} {oA RO ob : Obj} {tl : List (Addr × Obj)} (N : News h₀ L h ((Ad, oA) :: (R, RO) :: (b, ob) :: tl)) : ∃ Ad' R' oA', Ad' = Ad ∧ R' = R ∧ oA' = oA ∧ News h₀ L h ((b, ob) :: (Ad, oA) :: (R, RO) :: tl) :=
  ⟨Ad, R, oA, rfl, rfl, rfl, fun p hp => N p (by
    simp only [List.mem_cons] at hp ⊢
    rcases hp with rfl | rfl | rfl | hp
    · exact .inr (.inr (.inl rfl))
    · exact .inl rfl
    · exact .inr (.inl rfl)
    · exact .inr (.inr (.inr hp)))⟩
abbrev szOf {h₀ h : Heap} {L : Addr} {nx : List (Addr × Obj)} (_ : News h₀ L h nx) : Addr := h.objs.size
def inNames : List Str := [Str.ofString "wrong", Str.ofString "name", Str.ofString "value", Str.ofString "written"]
def IJ (prog : Program) (w : World) (S b R Ad lo : Addr) (tl : List (Addr × Obj)) (m2 : Str → Option Value) (i : Nat) (m' : Str → Option Value) (nx : List (Addr × Obj)) : Prop :=
  ∃ ob oA nn rl, nx = (b, ob) :: (Ad, oA) :: (R, PySem.W.listOf (rowRefs rl) nn) :: (rl.map (·.1) ++ tl) ∧ BoxO S ob ∧ oA.IsDictOf (PySem.strKind prog w) (kvOf (rl.map (·.2))) ∧ RowsOk rl ∧ (∀ x ∈ rl, @LT.lt Nat _ lo x.1.1) ∧ rl.length ≤ i ∧
    (∀ p ∈ [(Str.ofString "bad", Value.bool (anyBad rl))], m' p.1 = some p.2) ∧ (∀ z, z ≠ Str.ofString "turn2" → (∀ p ∈ [(Str.ofString "bad", Value.bool (anyBad rl))], z ≠ p.1) → inNames.contains z = false → m' z = m2 z)
theorem IJ0 {prog : Program} {w : World} {S b R Ad lo : Addr} {tl : List (Addr × Obj)} {m2 : Str → Option Value} {ob oA : Obj} (hb : BoxO S ob) (hA : oA.IsDictOf (PySem.strKind prog w) []) (h : m2 (Str.ofString "bad") = some (.bool false)) : IJ prog w S b R Ad lo tl m2 0 m2 ((b, ob) :: (Ad, oA) :: (R, PySem.W.listOf #[] 0) :: tl) :=
  ⟨ob, oA, 0, [], rfl, hb, hA, (fun x hx => by cases hx), (fun x hx => by cases hx), Nat.le_refl _, fun p hp => by rw [List.mem_singleton.mp hp]; exact h, fun _ _ _ _ => rfl⟩
theorem ij_ne {h₀ h : Heap} {L b Ad R lo : Addr} {ob oA RO : Obj} {tl : List (Addr × Obj)} {rl : List Row} {io : Obj} (hb : @LT.lt Nat _ b R) (hR : @LT.lt Nat _ R Ad) (hA : @LT.lt Nat _ Ad lo) (htl : ∀ p ∈ tl, p.1 ≠ b) (hrl : ∀ x ∈ rl, @LT.lt Nat _ lo x.1.1) :
    ∀ p ∈ (lo, io) :: (Ad, oA) :: (R, RO) :: (rl.map (·.1) ++ tl), p.1 ≠ b := by
  intro p hp
  simp only [List.mem_cons, List.mem_append, List.mem_map] at hp
  rcases hp with rfl | rfl | rfl | ⟨x, hx, rfl⟩ | hp
  · exact Nat.ne_of_gt (Nat.lt_trans hb (Nat.lt_trans hR hA))
  · exact Nat.ne_of_gt (Nat.lt_trans hb hR)
  · exact Nat.ne_of_gt hb
  · exact Nat.ne_of_gt (Nat.lt_trans hb (Nat.lt_trans hR (Nat.lt_trans hA (hrl x hx))))
  · exact htl p hp
def TblF (K : Frag) (wr : Bool) (v : Value) : Prop := ∃ rr vs n, v = .ref rr ∧ K.lookup rr = some (PySem.W.listOf vs n) ∧ 0 < vs.size ∧ vs.size ≤ 900 ∧ ∀ x ∈ vs, ∃ nm t, x = .str nm t ∧ NameOk nm wr
theorem tbl_of {K : Frag} {wr : Bool} {rr : Addr} {vs : List Value} {ss : List Str} {n : Nat} (e : K.lookup rr = some (PySem.W.listOf vs.toArray n)) (hi : StrsAre vs ss) (hs : ss.all (fun x => nameChk x wr) = true) (h0 : 0 < vs.length) (h1 : vs.length ≤ 900) : TblF K wr (.ref rr) :=
  ⟨rr, vs.toArray, n, rfl, e, by simpa using h0, by simpa using h1, fun x hx => by
    obtain ⟨nm, hn, t, rfl⟩ := strs_mem hi (by simpa using hx)
    exact ⟨nm, t, rfl, nameChk_ok (List.all_eq_true.mp hs nm hn)⟩⟩
section
variable {prog : Program} {w : World} {A : Around} {E : Value → Shared → Prop} {s : Shared} {h₀ : Heap} {L : Addr} {m : Str → Option Value}
theorem set_head {d : Addr} {o : Obj} {kvs : List (Str × Value)} {k : Str} {kt : Tok} {v : Value} {post : List (Addr × Obj)} {Q : Unit → Shared → Prop} (F : Fr h₀ L s.heap m) (N : News h₀ L s.heap ((d, o) :: post)) (hne : ∀ p ∈ post, p.1 ≠ d) (hd : o.IsDictOf (PySem.strKind prog w) kvs) (hsz : kvs.length ≤ 1000)
    (h : ∀ h' o', Fr h₀ L h' m → News h₀ L h' ((d, o') :: post) → o'.IsDictOf (PySem.strKind prog w) (stored kvs k v) → Q () { s with heap := h', toks := s.toks + 1 }) : wpAny (model prog w) A (setItem (.ref d) (.str k kt) v) Q E s := by
  have hm := N (d, o) (.head _)
  refine wpAny_setItem_pairs (hsz := by rw [sizeLine_eq]; omega) (strKind_is prog w k kt) (Heap.dictOf_iff.mpr ⟨o, hm.1, hd⟩) fun h' hmm hs => ?_
  obtain ⟨o', ho', hd'⟩ := Heap.dictOf_iff.mp hmm
  exact h h' o' (F.change hs hm.2.1 hm.2.2) (N.setHead hne hs ho') hd'
end
theorem kv_new {rl : List Row} {k : Str} (h : (valueAt (kvOf (rl.map (·.2))) k).isSome = false) : k ∉ (kvOf (rl.map (·.2))).map (·.1) := by
  intro hm
  obtain ⟨kv, hkv, e⟩ := List.mem_map.mp hm
  unfold valueAt at h
  rw [Option.isSome_map] at h
  have h1 := Option.isSome_eq_false_iff.mp h
  rw [Option.isNone_iff_eq_none, List.find?_eq_none] at h1
  exact h1 kv hkv (by simp [e])
theorem kv_push {rl : List Row} {x : Row} (h : (valueAt (kvOf (rl.map (·.2))) x.2.1).isSome = false) : stored (kvOf (rl.map (·.2))) x.2.1 x.2.2.1 = kvOf ((rl ++ [x]).map (·.2)) := by
  rw [stored_new (kv_new h)]
  simp [kvOf]
theorem refs_push {rl : List Row} {x : Row} : (rowRefs rl).push (.ref x.1.1) = rowRefs (rl ++ [x]) := by
  unfold rowRefs
  simp
theorem bad_push {rl : List Row} {x : Row} {wr : Bool} (h : nameRes x.2.1 = some (!wr)) : anyBad (rl ++ [x]) = (anyBad rl || wr) := by
  unfold anyBad
  rw [List.any_append]
  simp only [List.any_cons, List.any_nil, Bool.or_false]
  rw [h]
  cases wr <;> rfl
theorem rowsOk_push {rl : List Row} {r : Addr} {n : Str} {nt : Tok} {v wv : Value} {wrr : Wr} {wr : Bool} {k : Nat} (h : RowsOk rl) (hn : NameOk n wr) (hv : VRel v wrr) (hw : WRel wv wrr) : RowsOk (rl ++ [((r, PySem.W.listOf #[.str n nt, v, wv] k), (n, v, wrr))]) := by
  intro x hx
  rcases List.mem_append.mp hx with hx | hx
  · exact h x hx
  · rw [List.mem_singleton.mp hx]
    refine ⟨⟨nt, wv, k, rfl, hw⟩, ⟨(show n.length ≤ 1000 from by have := hn.1; omega), ?_, hv⟩, ?_⟩
    · show nameRes n = _ ∨ nameRes n = _
      rw [hn.2.1]
      cases wr
      · exact .inl rfl
      · exact .inr rfl
    · show rightG rightL n = (nameRes n == some true)
      rw [hn.2.2, hn.2.1]
      cases wr <;> rfl
theorem inNames_ne {z : Str} (h : inNames.contains z = false) : z ≠ Str.ofString "wrong" ∧ z ≠ Str.ofString "name" ∧ z ≠ Str.ofString "value" ∧ z ≠ Str.ofString "written" := by
  refine ⟨?_, ?_, ?_, ?_⟩ <;> (rintro rfl; revert h; decide)
theorem frame_in {m2 u : Str → Option Value} {a b c d e : Value} {bd : Bool} :
    (∀ p ∈ [(Str.ofString "bad", Value.bool bd)], (fun y => if y = Str.ofString "written" then some a else if y = Str.ofString "value" then some b else if y = Str.ofString "name" then some c else if y = Str.ofString "wrong" then some d else if y = Str.ofString "turn2" then some e else kstB (fun z => if inNames.contains z then u z else m2 z) [(Str.ofString "bad", Value.bool bd)] y) p.1 = some p.2) ∧
    (∀ z, z ≠ Str.ofString "turn2" → (∀ p ∈ [(Str.ofString "bad", Value.bool bd)], z ≠ p.1) → inNames.contains z = false → (fun y => if y = Str.ofString "written" then some a else if y = Str.ofString "value" then some b else if y = Str.ofString "name" then some c else if y = Str.ofString "wrong" then some d else if y = Str.ofString "turn2" then some e else kstB (fun z => if inNames.contains z then u z else m2 z) [(Str.ofString "bad", Value.bool bd)] y) z = m2 z) := by
  constructor
  · intro p hp
    rw [List.mem_singleton.mp hp]
    rfl
  · intro z h1 h2 h3
    obtain ⟨w1, w2, w3, w4⟩ := inNames_ne h3
    have w5 : z ≠ Str.ofString "bad" := h2 _ (.head _)
    simp only [kstB, if_neg h1, if_neg w1, if_neg w2, if_neg w3, if_neg w4, if_neg w5, h3, Bool.false_eq_true, if_false]
theorem frame_in2 {m2 u : Str → Option Value} {a b c d e : Value} {bd bd' : Bool} :
    (∀ p ∈ [(Str.ofString "bad", Value.bool bd')], (fun y => if y = Str.ofString "bad" then some (Value.bool bd') else if y = Str.ofString "written" then some a else if y = Str.ofString "value" then some b else if y = Str.ofString "name" then some c else if y = Str.ofString "wrong" then some d else if y = Str.ofString "turn2" then some e else kstB (fun z => if inNames.contains z then u z else m2 z) [(Str.ofString "bad", Value.bool bd)] y) p.1 = some p.2) ∧
    (∀ z, z ≠ Str.ofString "turn2" → (∀ p ∈ [(Str.ofString "bad", Value.bool bd')], z ≠ p.1) → inNames.contains z = false → (fun y => if y = Str.ofString "bad" then some (Value.bool bd') else if y = Str.ofString "written" then some a else if y = Str.ofString "value" then some b else if y = Str.ofString "name" then some c else if y = Str.ofString "wrong" then some d else if y = Str.ofString "turn2" then some e else kstB (fun z => if inNames.contains z then u z else m2 z) [(Str.ofString "bad", Value.bool bd)] y) z = m2 z) := by
  constructor
  · intro p hp
    rw [List.mem_singleton.mp hp]
    rfl
  · intro z h1 h2 h3
    obtain ⟨w1, w2, w3, w4⟩ := inNames_ne h3
    have w5 : z ≠ Str.ofString "bad" := h2 _ (.head _)
    simp only [kstB, if_neg h1, if_neg w1, if_neg w2, if_neg w3, if_neg w4, if_neg w5, h3, Bool.false_eq_true, if_false]
theorem frame_in3 {m2 u : Str → Option Value} {a b c d e : Value} {bd bd' bdn : Bool} (h : bdn = bd') :
    (∀ p ∈ [(Str.ofString "bad", Value.bool bdn)], (fun y => if y = Str.ofString "bad" then some (Value.bool bd') else if y = Str.ofString "written" then some a else if y = Str.ofString "value" then some b else if y = Str.ofString "name" then some c else if y = Str.ofString "wrong" then some d else if y = Str.ofString "turn2" then some e else kstB (fun z => if inNames.contains z then u z else m2 z) [(Str.ofString "bad", Value.bool bd)] y) p.1 = some p.2) ∧
    (∀ z, z ≠ Str.ofString "turn2" → (∀ p ∈ [(Str.ofString "bad", Value.bool bdn)], z ≠ p.1) → inNames.contains z = false → (fun y => if y = Str.ofString "bad" then some (Value.bool bd') else if y = Str.ofString "written" then some a else if y = Str.ofString "value" then some b else if y = Str.ofString "name" then some c else if y = Str.ofString "wrong" then some d else if y = Str.ofString "turn2" then some e else kstB (fun z => if inNames.contains z then u z else m2 z) [(Str.ofString "bad", Value.bool bd)] y) z = m2 z) := by
  subst h
  exact frame_in2
theorem kv_at {prog : Program} {w : World} {o : Obj} {rl : List Row} {a b : Addr × Obj} {x : At} (h : o.IsDictOf (PySem.strKind prog w) (kvOf ((rl ++ [(a, x)]).map (·.2)))) : o.IsDictOf (PySem.strKind prog w) (kvOf ((rl ++ [(b, x)]).map (·.2))) := by
  rw [List.map_append] at h ⊢
  exact h
theorem re_set {h₀ h : Heap} {L : Addr} {a b c d e : Addr × Obj} {tl : List (Addr × Obj)} (N : News h₀ L h (a :: b :: c :: d :: e :: tl)) : News h₀ L h (d :: a :: b :: c :: e :: tl) := fun p hp => N p (by
  simp only [List.mem_cons] at hp ⊢
  rcases hp with rfl | rfl | rfl | rfl | rfl | hp <;> simp_all)
theorem ne_A {q b lo Ad R : Addr} {T ob io RO : Obj} {rl : List Row} {tl : List (Addr × Obj)} (hbR : @LT.lt Nat _ b R) (hRA : @LT.lt Nat _ R Ad) (hAlo : @LT.lt Nat _ Ad lo) (hq : @LT.lt Nat _ Ad q) (hrl : ∀ x ∈ rl, @LT.lt Nat _ lo x.1.1) (htl : ∀ p ∈ tl, @LT.lt Nat _ p.1 R) :
    ∀ p ∈ (q, T) :: (b, ob) :: (lo, io) :: (R, RO) :: (rl.map (·.1) ++ tl), p.1 ≠ Ad := by
  intro p hp
  simp only [List.mem_cons, List.mem_append, List.mem_map] at hp
  rcases hp with rfl | rfl | rfl | rfl | ⟨x, hx, rfl⟩ | hp
  · exact Nat.ne_of_gt hq
  · exact Nat.ne_of_lt (Nat.lt_trans hbR hRA)
  · exact Nat.ne_of_gt hAlo
  · exact Nat.ne_of_lt hRA
  · exact Nat.ne_of_gt (Nat.lt_trans hAlo (hrl x hx))
  · exact Nat.ne_of_lt (Nat.lt_trans (htl p hp) hRA)
theorem ne_R {r b lo Ad R : Addr} {RB ob io oA : Obj} {rl : List Row} {tl : List (Addr × Obj)} (hbR : @LT.lt Nat _ b R) (hRA : @LT.lt Nat _ R Ad) (hAlo : @LT.lt Nat _ Ad lo) (hr : @LT.lt Nat _ Ad r) (hrl : ∀ x ∈ rl, @LT.lt Nat _ lo x.1.1) (htl : ∀ p ∈ tl, @LT.lt Nat _ p.1 R) :
    ∀ p ∈ (b, ob) :: (lo, io) :: (Ad, oA) :: (r, RB) :: (rl.map (·.1) ++ tl), p.1 ≠ R := by
  intro p hp
  simp only [List.mem_cons, List.mem_append, List.mem_map] at hp
  rcases hp with rfl | rfl | rfl | rfl | ⟨x, hx, rfl⟩ | hp
  · exact Nat.ne_of_lt hbR
  · exact Nat.ne_of_gt (Nat.lt_trans hRA hAlo)
  · exact Nat.ne_of_gt hRA
  · exact Nat.ne_of_gt (Nat.lt_trans hRA hr)
  · exact Nat.ne_of_gt (Nat.lt_trans hRA (Nat.lt_trans hAlo (hrl x hx)))
  · exact Nat.ne_of_lt (htl p hp)
theorem re_sub {r b lo Ad R q : Addr} {RB ob io oA RO T : Obj} {tl : List (Addr × Obj)} : ∀ p ∈ (b, ob) :: (lo, io) :: (Ad, oA) :: (r, RB) :: tl, p ∈ (r, RB) :: (Ad, oA) :: (q, T) :: (b, ob) :: (lo, io) :: (R, RO) :: tl := by
  intro p hp
  simp only [List.mem_cons] at hp ⊢
  rcases hp with rfl | rfl | rfl | rfl | hp <;> simp_all
theorem perm_end {h₀ h : Heap} {L r b lo Ad R : Addr} {RB ob io oA : Obj} {rl : List Row} {tl : List (Addr × Obj)} {k : Nat} {a : At} (N : News h₀ L h ((R, PySem.W.listOf ((rowRefs rl).push (.ref r)) k) :: (b, ob) :: (lo, io) :: (Ad, oA) :: (r, RB) :: (rl.map (·.1) ++ tl))) :
    News h₀ L h ([(lo, io)] ++ ((b, ob) :: (Ad, oA) :: (R, PySem.W.listOf (rowRefs (rl ++ [((r, RB), a)])) k) :: ((rl ++ [((r, RB), a)]).map (·.1) ++ tl))) := fun p hp => N p (by
  rw [refs_push (x := ((r, RB), a))]
  simp only [List.mem_cons, List.mem_append, List.map_append, List.map_cons, List.map_nil, List.not_mem_nil, or_false] at hp ⊢
  rcases hp with rfl | rfl | rfl | rfl | (hp | rfl) | hp
  · exact .inr (.inr (.inl rfl))
  · exact .inr (.inl rfl)
  · exact .inr (.inr (.inr (.inl rfl)))
  · exact .inl rfl
  · exact .inr (.inr (.inr (.inr (.inr (.inl hp)))))
  · exact .inr (.inr (.inr (.inr (.inl rfl))))
  · exact .inr (.inr (.inr (.inr (.inr (.inr hp))))))
theorem lo_push {rl : List Row} {lo : Addr} {x : Row} (h : ∀ x ∈ rl, @LT.lt Nat _ lo x.1.1) (hx : @LT.lt Nat _ lo x.1.1) : ∀ y ∈ rl ++ [x], @LT.lt Nat _ lo y.1.1 := fun y hy => by
  rcases List.mem_append.mp hy with hy | hy
  · exact h y hy
  · rw [List.mem_singleton.mp hy]; exact hx
theorem ij_off {b Ad R lo : Addr} {ob oA RO : Obj} {rl : List Row} {tl : List (Addr × Obj)} (hbR : @LT.lt Nat _ b R) (hRA : @LT.lt Nat _ R Ad) (hAlo : @LT.lt Nat _ Ad lo) (hrl : ∀ x ∈ rl, @LT.lt Nat _ lo x.1.1) (htl : ∀ p ∈ tl, @LT.lt Nat _ p.1 R) :
    ∀ p ∈ (b, ob) :: (Ad, oA) :: (R, RO) :: (rl.map (·.1) ++ tl), p.1 ≠ lo := by
  intro p hp
  simp only [List.mem_cons, List.mem_append, List.mem_map] at hp
  rcases hp with rfl | rfl | rfl | ⟨x, hx, rfl⟩ | hp
  · exact Nat.ne_of_lt (Nat.lt_trans hbR (Nat.lt_trans hRA hAlo))
  · exact Nat.ne_of_lt hAlo
  · exact Nat.ne_of_lt (Nat.lt_trans hRA hAlo)
  · exact Nat.ne_of_gt (hrl x hx)
  · exact Nat.ne_of_lt (Nat.lt_trans (htl p hp) (Nat.lt_trans hRA hAlo))
section
variable {prog : Program} {w : World} {A : Around} {E : Value → Shared → Prop} {s : Shared} {h₀ : Heap} {L : Addr} {m : Str → Option Value} {news : List (Addr × Obj)}
theorem dict_copy {src : Addr} {o : Obj} {kvs : List (Str × Value)} {Q : Value → Shared → Prop} (F : Fr h₀ L s.heap m) (N : News h₀ L s.heap news) (hm : (src, o) ∈ news) (hd : o.IsDictOf (PySem.strKind prog w) kvs) (lo : (src == sysModules) = false) (hbig : sysModules < h₀.objs.size) (hsz : kvs.length ≤ 1000)
    (h : ∀ D oD h', Fr h₀ L h' m → News h₀ L h' ((D, oD) :: news) → (∀ p ∈ news, p.1 < D) → (D == sysModules) = false → oD.IsDictOf (PySem.strKind prog w) kvs → Q (.ref D) { s with heap := h' }) :
    wpAny (model prog w) A (call (.type "dict") [.ref src]) Q E s := by
  refine kt_call_dict lo (kda_dict N hm hd) (by rw [sizeLine_eq]; omega) fun h' hm' hs => ?_
  obtain ⟨o', ho', hd'⟩ := Heap.dictOf_iff.mp hm'
  have N1 := News.push F N { cls := .type "dict", data := .dict #[] }
  exact h _ o' h' ((F.push _).change hs (N1 _ (.head _)).2.1 (N1.fresh (.head _))) (N1.setHead N.apart hs ho') (fun p hp => Heap.lt_size (N p hp).1) (F.notModules hbig) hd'
theorem listItem_at {value slice : PySem.Expr} {r : Addr} {vs : Array Value} {k : Nat} {v : Value} {i : Int} {t : Tok} {Q : Value → Shared → Prop} (N : News h₀ L s.heap news) (hm : (r, PySem.W.listOf vs k) ∈ news) (h0 : 0 ≤ i ∧ i < 1000) (hx : vs[i.toNat]? = some v)
    (h : Q v s)
    (hs : subscripted slice false (.ref r) (.int i t) = operate [.ref r, .int i t] (getItem (.ref r) (.int i t)) := by with_unfolding_all rfl) (hg : ∀ x, letTemporaryGo value (.ref r) x = pure () := by intro _; with_unfolding_all rfl) :
    wpAny (model prog w) A (subscriptTail value slice (.ref r) (.int i t)) Q E s := by
  have hl : s.heap.IsList r vs := ⟨_, (N _ hm).1, rfl, _, rfl⟩
  exact subscriptTail_builtin hl.typeIs PySem.slot_list_getitem.lookup (wpAny_getItem_list hl h0.1 (by omega) hx h) hs hg
theorem is_inst {x y : Addr} {d e : Addr} {b : Bool} {Q : Value → Shared → Prop} (N : News h₀ L s.heap news) (hx : (x, instObj 487 d) ∈ news) (hy : (y, instObj 487 e) ∈ news) (hb : (x == y) = b) (h : Q (.bool b) s) : wpAny (model prog w) A (compareOp .Is (.ref x) (.ref y)) Q E s := by
  cases b with
  | true =>
    obtain rfl := eq_of_beq hb
    exact wpAny_is_ref_self h
  | false => exact wpAny_is_ref_other (beq_eq_false_iff_ne.mp hb) (N _ hx).1 (N _ hy).1 (by intro z; cases z) h
theorem neqB {a b : Bool} {Q : Value → Shared → Prop} (e : a = b) (h : Q (.bool false) s) : wpAny (model prog w) A (compareOp .NotEq (.bool a) (.bool b)) Q E s := by
  refine PyProof.Rows.ne_bool ?_
  subst e
  have : (a != a) = false := by cases a <;> rfl
  rw [this]
  exact h
structure JF (b : Addr) (ob : Obj) (h₀ : Heap) (L : Addr) (m : Str → Option Value) (nx : List (Addr × Obj)) (s : Shared) (v : Bool) (s' : Shared) : Prop where
  out : v = false ∧ ∃ h' tk', s' = { s with heap := h', toks := tk' } ∧ 0 < tk' ∧ Fr h₀ L h' m ∧ News h₀ L h' nx
theorem joinF {M : Model} {t : Sem Bool} {Q : Bool → Shared → Prop} {b : Addr} {ob : Obj} {nx : List (Addr × Obj)} (F : Fr h₀ L s.heap m) (_N : News h₀ L s.heap nx)
    (h : wpAny M A t (fun v s' => JF b ob h₀ L m nx s v s') E s) (k : ∀ h' tk', 0 < tk' → Fr h₀ L h' m → News h₀ L h' nx → Q false { s with heap := h', toks := tk' }) : wpAny M A t Q E s :=
  wpAny_mono h (fun v s' x => by
    obtain ⟨rfl, h', tk', rfl, h1, h3, h4⟩ := x.out
    exact k h' tk' h1 h3 h4) fun _ _ x => x
end
theorem good_all {rl : List Row} (h : RowsOk rl) : ∀ a ∈ rl.map (·.2), GoodA a := fun a ha => by
  obtain ⟨x, hx, rfl⟩ := List.mem_map.mp ha
  exact (h x hx).2.1
theorem rl_mem {rl : List Row} {pre tl : List (Addr × Obj)} (h : RowsOk rl) : ∀ x ∈ rl, x.1 ∈ pre ++ (rl.map (·.1) ++ tl) ∧ RowOk x := fun x hx =>
  ⟨List.mem_append_right _ (List.mem_append_left _ (List.mem_map_of_mem hx)), (h x hx).1⟩
theorem kv_nodup {prog : Program} {w : World} {o : Obj} {rl : List Row} (h : o.IsDictOf (PySem.strKind prog w) (kvOf (rl.map (·.2)))) : (rl.map fun x => x.2.1).Nodup := by
  obtain ⟨_, _, _, _, _, _, hn⟩ := h
  unfold kvOf at hn
  rw [List.map_map, List.map_map] at hn
  exact hn
theorem good_keep {rl : List Row} (h : RowsOk rl) : ∀ a ∈ (keepR rightL rl).map (·.2), GoodA a := fun a ha => by
  obtain ⟨x, hx, rfl⟩ := List.mem_map.mp ha
  exact (h x (keep_sub hx)).2.1
theorem strsRight : ∀ {t0 t1 t2 t3 t4 t5 t6 t7 t8 t9 t10 : Tok}, StrsAre [.str (Str.ofString "a") t0, .str (Str.ofString "Z") t1, .str (Str.ofString "_") t2, .str (Str.ofString ":") t3, .str (Str.ofString "href") t4, .str (Str.ofString "data-x") t5, .str (Str.ofString "x.y") t6, .str (Str.ofString "a:b") t7, .str (Str.ofString "_9") t8, .str (Str.ofString "A1-_.:") t9, .str (Str.ofString "xmlns:xlink") t10] rightL :=
  .cons _ _ (.cons _ _ (.cons _ _ (.cons _ _ (.cons _ _ (.cons _ _ (.cons _ _ (.cons _ _ (.cons _ _ (.cons _ _ (.cons _ _ .nil))))))))))
theorem outNames_ne {z : Str} (h : outNames.contains z = false) : z ≠ Str.ofString "renderer" ∧ z ≠ Str.ofString "rows" ∧ z ≠ Str.ofString "attrs" ∧ z ≠ Str.ofString "bad" ∧ z ≠ Str.ofString "turn2" ∧ z ≠ Str.ofString "wrong" ∧ z ≠ Str.ofString "name" ∧ z ≠ Str.ofString "value" ∧ z ≠ Str.ofString "written" ∧ z ≠ Str.ofString "good" ∧ z ≠ Str.ofString "kept" := by
  refine ⟨?_, ?_, ?_, ?_, ?_, ?_, ?_, ?_, ?_, ?_, ?_⟩ <;> (rintro rfl; revert h; decide)
theorem inNames_of {z : Str} (h : outNames.contains z = false) : inNames.contains z = false := by
  obtain ⟨_, _, _, _, _, h6, h7, h8, h9, _, _⟩ := outNames_ne h
  unfold inNames
  simp [h6, h7, h8, h9]
theorem memTail2 {h₀ h : Heap} {L : Addr} {a b x : Addr × Obj} {l : List (Addr × Obj)} (_ : News h₀ L h (a :: b :: l)) (hx : x ∈ l) : x ∈ a :: b :: l := .tail _ (.tail _ hx)
theorem frame_out {M m2 u w' : Str → Option Value} {k g : Value} {vb : Bool} {n n' : Int} {rt : Tok} (e : n = n') (h : ∀ z, z ≠ Str.ofString "turn" → z ≠ Str.ofString "rounds" → outNames.contains z = false → M z = m2 z) :
    (∀ p ∈ [(Str.ofString "rounds", Value.int n' rt)], (fun y => if y = Str.ofString "rounds" then some (Value.int n rt) else if y = Str.ofString "kept" then some k else if y = Str.ofString "good" then some g else if y = Str.ofString "turn2" then u y else kstB (fun z => if inNames.contains z = true then w' z else M z) [(Str.ofString "bad", Value.bool vb)] y) p.1 = some p.2) ∧
    (∀ z, z ≠ Str.ofString "turn" → (∀ p ∈ [(Str.ofString "rounds", Value.int n' rt)], z ≠ p.1) → outNames.contains z = false → (fun y => if y = Str.ofString "rounds" then some (Value.int n rt) else if y = Str.ofString "kept" then some k else if y = Str.ofString "good" then some g else if y = Str.ofString "turn2" then u y else kstB (fun z => if inNames.contains z = true then w' z else M z) [(Str.ofString "bad", Value.bool vb)] y) z = m2 z) := by
  subst e
  constructor
  · intro p hp
    rw [List.mem_singleton.mp hp]
    rfl
  · intro z h1 h2 h3
    have w5 : z ≠ Str.ofString "rounds" := h2 _ (.head _)
    have w6 := inNames_of h3
    obtain ⟨_, _, _, a4, a5, _, _, _, _, a10, a11⟩ := outNames_ne h3
    dsimp only
    rw [if_neg w5, if_neg a11, if_neg a10, if_neg a5]
    show (if z = Str.ofString "bad" then _ else (if inNames.contains z = true then w' z else M z)) = _
    rw [if_neg a4, w6]
    exact h z h1 w5 h3
theorem frame_mid {m1 m2 : Str → Option Value} {ad ro re tu bd : Value} {i : Int} {rt : Tok} : ∀ z, z ≠ Str.ofString "turn" → z ≠ Str.ofString "rounds" → outNames.contains z = false → (fun y => if y = Str.ofString "bad" then some bd else if y = Str.ofString "attrs" then some ad else if y = Str.ofString "rows" then some ro else if y = Str.ofString "renderer" then some re else if y = Str.ofString "turn" then some tu else kstB (fun z => if outNames.contains z = true then m1 z else m2 z) [(Str.ofString "rounds", Value.int i rt)] y) z = m2 z := by
  intro z h1 h2 h3
  obtain ⟨a1, a2, a3, a4, _⟩ := outNames_ne h3
  dsimp only
  rw [if_neg a4, if_neg a3, if_neg a2, if_neg a1, if_neg h1]
  show (if z = Str.ofString "rounds" then _ else (if outNames.contains z = true then m1 z else m2 z)) = _
  rw [if_neg h2, h3]
  rfl
theorem out_end {h₀ h : Heap} {L b o d lo : Addr} {ob oo od io : Obj} {rest : List (Addr × Obj)} (N : News h₀ L h ((b, ob) :: (o, oo) :: (d, od) :: (lo, io) :: rest)) : News h₀ L h ([(lo, io)] ++ ((b, ob) :: rest)) := fun p hp => N p (by
  simp only [List.cons_append, List.nil_append, List.mem_cons] at hp ⊢
  rcases hp with rfl | rfl | hp
  · exact .inr (.inr (.inr (.inl rfl)))
  · exact .inl rfl
  · exact .inr (.inr (.inr (.inr hp))))
theorem nil_toks {prog : Program} {w : World} {A : Around} {E : Value → Shared → Prop} {s : Shared} {env : Env} {Q : Flow → Shared → Prop} (h0 : 0 < s.toks) (h : Q .next s) : wpAny (model prog w) A (execs [] env) Q E s := wpAny_execs_nil h
end Mine
end
section
theorem Mine.start48 : True := by w_top off; trivial
open PySem PySem.W PyProof.Rows PySem.Calls PySem.Spec
set_option maxRecDepth 100000
set_option maxHeartbeats 8000000
set_option linter.unusedVariables false
local macro_rules | `(tactic| k_room) => `(tactic| ktr_room)
local macro_rules | `(tactic| k_all) => `(tactic| first | assumption | exact Mine.neAll (by assumption))
local macro_rules | `(tactic| k_lt $h:ident) => `(tactic| (replace $h := allLt_of $h; simp only [AllLt, and_true] at $h:ident; (repeat (have lx := And.left $h; replace $h := And.right $h))))
local macro_rules | `(tactic| ktr_enter) => `(tactic| (refine' code_def ?k1 ?k2 ?k3 ?k4 ?k5 ?kA ?kF ?kK ?k6 ?k7 ?k8 ?k9 ?kB ?_ ?c2 ?c3 ?c4 ?c5; (case kA => exact rfl); (case kF => exact rfl); (case kK => first | exact rfl | assumption); (case k1 => k_asm); (case k2 => k_asm); (case k3 => k_asm); (case k4 => k_asm); (case k5 => k_asm); (case k6 => k_is); (case k7 => k_is); (case k8 => ktr_room); (case k9 => first | exact BindsTo.of_eq rfl | exact binds_K (by k_in) rfl (by k_is) rfl rfl rfl); (case c5 => decide); (case kB => exact locs rfl); (case c2 => exact rfl); (case c3 => exact rfl); (case c4 => exact rfl); k_whole; intro g' L' h' FG' F' N' B' X' T'; (try dsimp only); (try k_lift B'); (try k_fold)))
local macro_rules | `(tactic| walk_at "call ref") => `(tactic| (k_here; k_dflt (
  (refine' call_cls ?k1 ?k2 ?k3 ?k4 ?k5 ?k6 ?_; (case k1 => k_asm); (case k2 => k_asm); (case k3 => k_asm); (case k4 => k_is); (case k5 => k_is); (case k6 => k_is); intro x' d' h' F' N' l1 l2; (try k_lt l1); (try k_lt2 l2); 
   (refine' ks_code_super ?k1 ?k2 ?k3 ?k4 ?k5 ?kA ?kF ?kK ?k6 ?k7 ?k8 ?k9 ?kB ?_ ?c1 ?c2 ?c3 ?c4; (case kA => exact rfl); (case kF => exact rfl); (case kK => first | exact rfl | assumption); (case k1 => k_asm); (case k2 => k_asm); (case k3 => k_asm); (case k4 => k_asm); (case k5 => k_asm); (case k6 => k_is); (case k7 => k_is); (case k8 => ktr_room); (case k9 => first | exact BindsTo.of_eq rfl | exact binds_K (by k_in) rfl (by k_is) rfl rfl rfl); (case kB => exact locs rfl); (case c1 => decide); (case c2 => exact rfl); (case c3 => exact rfl); (case c4 => exact rfl); intro g' L' h' FG' F' N' B' X' T' l1; (try k_lt l1); (try dsimp only); (try k_lift B'))))))
local macro_rules | `(tactic| walk_at "eval Name") => `(tactic| (k_here; k_dflt (refine' nameX_B ?F ?X ?T ?e ?v ?n ?_ ?a ?b; (case F => k_asm); (case X => k_asm); (case T => k_asm); (case a => rfl); (case b => rfl); (case e => k_is); (case v => first | boot_by_name | kernel_rfl); (case n => decide); k_whole)))
local macro_rules | `(tactic| walk_at "call type:super") => `(tactic| (k_here; k_dflt (refine' Mine.super2 ?F ?X ?N ?I ?c ?d ?_; (case F => k_asm); (case X => k_asm); (case N => k_asm); (case I => k_inst); (case c => k_is); (case d => k_is);  intro so' h' F' N' l1; (try k_lt l1))))

local macro_rules | `(tactic| walk_at "ite") => `(tactic| (first | refine ite_neg (by decide) ?_ | refine ite_pos (by decide) ?_))

local macro_rules | `(tactic| walk_at "call ref") => `(tactic| (k_here; (with_reducible show wpAny _ _ (call (Value.ref 550) [Value.ref _, Value.int _ _]) _ _ _); k_dflt (
  refine' Mine.draw_at ?k1 ?k2 ?k3 ?k4 ?k5 ?k6 ?k7 ?k8 ?k9 ?l1 ?l2 ?l3 ?l4 ?l5 ?l6 ?l7 ?l8 ?_;
  (case k1 => k_asm); (case k2 => k_asm); (case k3 => k_asm); (case k4 => k_asm); (case k5 => k_updF); (case k6 => k_asm); (case k7 => first | exact rfl | assumption);
  (case k8 => k_asm); (case k9 => l_ints); (case l1 => omega); (case l2 => first | assumption | decide); (case l3 => first | assumption | decide); (case l4 => first | assumption | decide);
  (case l5 => first | assumption | decide); (case l6 => first | assumption | decide); (case l7 => ktr_room); (case l8 => ktr_units);
  intro r9 t9 pl9 tp9 st9 ts9 n9 h9 tk9 hr9 hr9' hp9 hs9 hs9' F9 N9; (try dsimp only at N9); (try dsimp only); (try k_fold))))
local macro_rules | `(tactic| walk_at "call ref") => `(tactic| (k_here; (with_reducible show wpAny _ _ (call (Value.ref 487) _) _ _ _); k_dflt (
  (first | refine' Mine.new_html ?k1 ?k2 ?k3 ?k4 ?k6 ?k7 ?l7 ?l8 ?_ | refine' Mine.new_html0 ?k1 ?k2 ?k3 ?k4 ?k6 ?k7 ?l7 ?l8 ?_);
  (case k1 => k_asm); (case k2 => k_asm); (case k3 => k_asm); (case k4 => k_asm); (case k6 => k_asm); (case k7 => first | exact rfl | assumption);
  (case l7 => ktr_room); (case l8 => ktr_units);
  intro x9 d9 md9 ta9 tb9 tc9 h9 tk9 la9 lb9 F9 N9; (try k_lt la9); (try k_lt2 lb9); (try dsimp only); (try k_fold))))
local macro_rules | `(tactic| walk_at "call ref") => `(tactic| (k_here; (with_reducible show wpAny _ _ (call (Value.ref 163) _) _ _ _); k_dflt (
  (refine' Mine.new_state ?k1 ?k2 ?k3 ?k4 ?k6 ?k7 ?l7 ?l8 ?_);
  (case k1 => k_asm); (case k2 => k_asm); (case k3 => k_asm); (case k4 => k_asm); (case k6 => k_asm); (case k7 => first | exact rfl | assumption);
  (case l7 => ktr_room); (case l8 => ktr_units);
  intro x9 h9 tk9 F9 N9; (try dsimp only); (try k_fold))))

local macro_rules | `(tactic| walk_at "ite") => `(tactic| (first | refine ite_neg (by decide) ?_ | refine ite_pos (by decide) ?_ | refine ite_neg (by decide +kernel) ?_ | refine ite_pos (by decide +kernel) ?_))
local macro_rules | `(tactic| walk_at "forall") => `(tactic| (k_here; intro htk; (try dsimp only at htk); (try dsimp only)))
local macro_rules | `(tactic| walk_at "execs cons") => `(tactic| (k_here; k_dflt (refine' Mine.execs_cons_T ?h ?_; (case h => first | assumption | ((try dsimp only); omega)))))
local macro_rules | `(tactic| walk_at "execs cons") => `(tactic| (k_here; (fail_if_success (refine' Mine.gen_toks (by with_reducible assumption) ?_)); (try dsimp only); refine' Mine.gen_toks (by omega) ?_; intro tk htk))
local macro_rules | `(tactic| walk_at "execs nil") => `(tactic| (k_here; (fail_if_success (refine' Mine.gen_toks (by with_reducible assumption) ?_)); (try dsimp only); refine' Mine.gen_toks (by omega) ?_; intro tk htk))
local macro_rules | `(tactic| walk_at "call builtin:str.replace") => `(tactic| (k_here; k_dflt ((try dsimp only); refine' Mine.replaceT ?a ?b ?c ?d ?e ?f ?g ?_; (case a => (try dsimp only); omega); (case b => (try dsimp only); omega); (case c => (try dsimp only); omega); (case d => (try dsimp only); omega); (case e => decide); (case f => omega); (case g => decide); intro t' k' hk' hl')))
local macro_rules | `(tactic| walk_at "binaryOp Add str str") => `(tactic| (k_here; (with_reducible show wpAny _ _ (binaryOp Operator.Add (Value.str _ _) (Value.str _ _)) _ _ _); k_dflt (refine' Mine.addT ?h ?hsz ?_; (case h => first | assumption | ((try dsimp only); omega)); (case hsz => size_fits)); intro t' k' hk' hl'))

local macro_rules | `(tactic| walk_at "exec For") => `(tactic| (refine Mine.Held.out ?_))
local macro_rules | `(tactic| walk_at "exec For Name Call cons nil") => `(tactic| (refine Mine.Held.out ?_))
local macro_rules | `(tactic| walk_at "pyIter ref") => `(tactic| (refine Mine.Held.out ?_))
local macro_rules | `(tactic| walk_at "pyIter") => `(tactic| (refine Mine.Held.out ?_))
local macro_rules | `(tactic| walk_at "call type:range") => `(tactic| (k_here; k_dflt (refine' Mine.rangeT ?F ?N ?h ?_; (case F => k_asm); (case N => k_asm); (case h => (try dsimp only); omega)); intro r' h' tk' t1' u1' v1' htk' hrng' F' N'))
local macro_rules | `(tactic| walk_at "call ref") => `(tactic| (k_here; (with_reducible show wpAny _ _ (call (Value.ref 550) _ _) _ _ _); k_dflt (refine' Mine.draw_B ?hne ?B ?F ?X ?hb ?hs ?N ?T ?hk ?hsz ?hsz2 ?hdp ?hu ?htk ?_; (case hb => k_asm); (case N => k_asm); (case hne => first | assumption | exact Mine.neAll (by assumption)); (case hs => k_asm); (case B => k_asm); (case F => k_asm); (case X => k_in); (case T => k_asm); (case hk => first | exact rfl | assumption); (case hsz => omega); (case hsz2 => omega); (case hdp => ktr_room); (case hu => ktr_units); (case htk => (try dsimp only); omega); intro r9 t9 ob9 h' tk' hr9 hr9' hb9 htk' F' N')))
local macro_rules | `(tactic| walk_at "subscriptTail") => `(tactic| (k_here; (with_reducible show wpAny _ _ (subscriptTail _ _ (Value.ref _) (Value.int _ _)) _ _ _); refine Mine.Held.out ?_))
local macro_rules | `(tactic| walk_at "eval IfExp") => `(tactic| (k_here; refine Mine.Held.out ?_))
local macro_rules | `(tactic| walk_at "call ref") => `(tactic| (k_here; (with_reducible show wpAny _ _ (call (Value.ref 557) _ _) _ _ _); refine Mine.Held.out ?_))
local macro_rules | `(tactic| walk_at "call ref") => `(tactic| (k_here; (with_reducible show wpAny _ _ (call (Value.ref 564) _ _) _ _ _); refine Mine.Held.out ?_))
local macro_rules | `(tactic| walk_at "setItem ref str") => `(tactic| (refine Mine.Held.out ?_))
local macro_rules | `(tactic| walk_at "setItem ref") => `(tactic| (refine Mine.Held.out ?_))
local macro_rules | `(tactic| walk_at "call builtin:list.append") => `(tactic| (refine Mine.Held.out ?_))
local macro_rules | `(tactic| walk_at "compareOp NotIn") => `(tactic| (refine Mine.Held.out ?_))
local macro_rules | `(tactic| walk_at "compareOp NotIn str ref") => `(tactic| (refine Mine.Held.out ?_))
local macro_rules | `(tactic| walk_at "call type:dict") => `(tactic| (refine Mine.Held.out ?_))
local macro_rules | `(tactic| walk_at "call ref") => `(tactic| (k_here; (with_reducible show wpAny _ _ (call (Value.ref 578) _ _) _ _ _); refine Mine.Held.out ?_))
local macro_rules | `(tactic| walk_at "call ref") => `(tactic| (k_here; (with_reducible show wpAny _ _ (call (Value.ref 327) _ _) _ _ _); refine Mine.Held.out ?_))
local macro_rules | `(tactic| walk_at "call ref") => `(tactic| (k_here; (with_reducible show wpAny _ _ (call (Value.ref 571) _ _) _ _ _); refine Mine.Held.out ?_))
local macro_rules | `(tactic| walk_at "call ref") => `(tactic| (k_here; (with_reducible show wpAny _ _ (call (Value.ref 592) _ _) _ _ _); refine Mine.Held.out ?_))
local macro_rules | `(tactic| walk_at "compareOp NotEq bool bool") => `(tactic| (refine Mine.Held.out ?_))
local macro_rules | `(tactic| walk_at "compareOp NotEq str str") => `(tactic| (refine Mine.Held.out ?_))
local macro_rules | `(tactic| walk_at "compareOp Is ref ref") => `(tactic| (refine Mine.Held.out ?_))
local macro_rules | `(tactic| walk_at "isTrue BoolOp") => `(tactic| (k_here; refine Mine.Held.out ?_))
local macro_rules | `(tactic| walk_at "exec Assign cons DictComp") => `(tactic| (k_here; refine Mine.Held.out ?_))
local macro_rules | `(tactic| walk_at "exec Assign cons ListComp") => `(tactic| (k_here; refine Mine.Held.out ?_))
local macro_rules | `(tactic| walk_at "execs nil") => `(tactic| (k_here; refine Mine.nil_toks (by with_reducible assumption) ?_))
local macro_rules | `(tactic| walk_at "GrownAll cons") => `(tactic| (refine Mine.Held.out ?_))
local macro_rules | `(tactic| walk_at "law con") => `(tactic| ((case B => k_asm); (case F => k_asm); (case X => k_in); (case T => k_asm); (case hk => exact rfl); (case hdp => ktr_room); (case hu => ktr_units); (case htk => (try dsimp only); omega)))
open Mine in
theorem Mine.law_holds : PySem.Challenge.rw_bq5017_02.Holds := hd (by
  k_go0
  (all_goals try k_fold)
  k_steps
  refine ⟨?_⟩
  rename World => wd
  rename Fr _ _ _ _ => F2
  refine Mine.For_nameF F2 rfl ?_
  k_steps
  refine ⟨?_⟩
  rename Fr _ _ _ _ => F3
  rename News _ _ _ _ => N3
  obtain ⟨l, x1, x0, b, S, ob, rest, e1, e2, e3, e4, e5, hb0, HB, N4⟩ := base_of N3 (by assumption) (by assumption) (by assumption) (by omega) (by omega) (by omega) (by omega) (by omega) (by omega) (by assumption)
  subst e1
  subst e2
  subst e3
  subst e4
  subst e5
  have hscr : Scr _ S := ⟨_, _, by assumption, by assumption, by omega⟩
  refine Mine.iter_rangeN rfl rfl rfl F3 N4 (by assumption) (small_one (by decide) (by decide) (by omega) (by omega)) (rangeSize_nat _ _) (OJ S b rest (mOf F3)) (OJ0 hb0 rfl) (by assumption) ?off ?step ?done ?hE
  case hE => passes_own
  case off =>
    rintro i m' nx ⟨ob', rt, rfl, _⟩ p hp
    rcases List.mem_cons.mp hp with rfl | hp
    · exact Nat.ne_of_lt (Heap.lt_size (N4 _ (List.Mem.head _)).1)
    · exact Nat.ne_of_lt (Heap.lt_size (N4 _ (List.Mem.tail _ hp)).1)
  case done =>
    rintro h' tk m' nx' htk' F5 N5 ⟨ob', rt, rfl, hb5, h1, h2⟩
    replace F5 := kst_frOut h1 h2 F5
    k_steps
    refine ⟨?_⟩
    obtain ⟨ps, hps⟩ := HB.tab
    exact ⟨⟨ps, (N5 _ (.tail _ hps)).1⟩, True.intro⟩
  case step =>
    rintro i tt m₁ nx₁ h tk io hi ⟨ob1, rt, rfl, hb1, h1, h2⟩ htk1 F5 N5
    replace F5 := kst_fr h1 h2 F5
    have hne1 : ∀ p ∈ (szOf N4, io) :: rest, p.1 ≠ b := List.forall_mem_cons.mpr ⟨Nat.ne_of_gt (Heap.lt_size (N4 _ (List.Mem.head _)).1), HB.off⟩
    replace N5 := swap2 N5
    k_steps
    refine ⟨?_⟩
    obtain ⟨lk, hlk⟩ := HB.lin
    refine item_R (vs := #[.ref x1, .ref x0]) (.inr ⟨lk, List.Mem.tail _ (List.Mem.tail _ hlk)⟩) (by k_asm) (by k_asm) (by assumption) (by assumption) (by show (2 : Int) ≤ 1000; decide) fun rv hrv => ?_
    obtain ⟨o, d, t1, t2, t3, md, plain, rfl, ho, hd', hpl⟩ := rsel_of HB hrv
    k_steps
    refine ⟨?_⟩
    rename Fr _ _ _ _ => F6
    rename News _ _ _ _ => N6
    obtain ⟨Ad, R, oA, eA, eR, eo, N6'⟩ := inner_named N6
    subst eA
    subst eR
    subst eo
    have hbR : @LT.lt Nat _ b R := by omega
    have hRA : @LT.lt Nat _ R Ad := by omega
    have hne2 : ∀ p ∈ (Ad, oA) :: (R, PySem.W.listOf #[] 0) :: (_, io) :: rest, p.1 ≠ b := List.forall_mem_cons.mpr ⟨Nat.ne_of_gt (Nat.lt_trans hbR hRA), List.forall_mem_cons.mpr ⟨Nat.ne_of_gt hbR, hne1⟩⟩
    refine Mine.For_nameF F6 rfl ?_
    k_steps
    refine ⟨?_⟩
    rename Fr _ _ _ _ => F7
    rename News _ _ _ _ => N7
    have hAlo : @LT.lt Nat _ Ad (szOf N7) := Heap.lt_size (N7 _ (.tail _ (.head _))).1
    have htlR : ∀ p ∈ (szOf N4, io) :: rest, @LT.lt Nat _ p.1 R := List.forall_mem_cons.mpr ⟨by assumption, allOf (by assumption)⟩
    refine Mine.iter_rangeN rfl rfl rfl F7 N7 (by assumption) (small_one (by decide) (by decide) (by omega) (by omega)) (rangeSize_nat _ _) (IJ PySem.Challenge.rw_bq5017_02.row.prog _ S b R Ad (szOf N7) _ (mOf F7)) (IJ0 (by assumption) (by assumption) rfl) (by assumption) ?off ?step ?done ?hE
    case hE => passes_own
    case off =>
      rintro i' m' nx' ⟨ob', oA', nn', rl', rfl, _, _, _, hlo', _⟩
      exact ij_off hbR hRA hAlo hlo' htlR
    case done =>
      rintro h2 tk2 m₂ nx₂ htk2 F8 N8 ⟨ob2, oA2, nn2, rl, rfl, hb2, hA2, hrl2, hlo2, hlen2, g1, g2⟩
      replace F8 := kst_frOut g1 g2 F8
      have hl7 : rl.length ≤ 10 := by omega
      have hl8 : (kvOf (rl.map (·.2))).length ≤ 1000 := by rw [show (kvOf (rl.map (·.2))).length = rl.length from by simp [kvOf]]; omega
      have hl9 : (rl.map (·.2)).length ≤ 100 := by rw [List.length_map]; omega
      have hO : (o, instObj 487 d) ∈ (b, ob2) :: (Ad, oA2) :: (R, PySem.W.listOf (rowRefs rl) nn2) :: (rl.map (·.1) ++ (szOf N4, io) :: rest) := .tail _ (.tail _ (.tail _ (List.mem_append_right _ (.tail _ ho))))
      have hDd : (d, rdict wd.params t1 t2 t3 md (.bool plain)) ∈ (b, ob2) :: (Ad, oA2) :: (R, PySem.W.listOf (rowRefs rl) nn2) :: (rl.map (·.1) ++ (szOf N4, io) :: rest) := .tail _ (.tail _ (.tail _ (List.mem_append_right _ (.tail _ hd'))))
      k_steps
      refine ⟨?_⟩
      refine dict_copy (by k_asm) N8 (.tail _ (.head _)) hA2 (by assumption) (modules_low (Top.nolimit (by k_asm))) hl8 fun D1 oD1 h3 F9 N9 l9 lo9 hD1 => ?_
      k_steps
      refine ⟨?_⟩
      refine refused_ok (at' := rl.map (·.2)) (by k_asm) (by k_asm) (by k_in) (by k_in) (full2 N9 (.tail _ hO) (.tail _ hDd) (.head _)) (by k_asm) (by k_asm) rfl (by ktr_room) (by ktr_units) (by (try dsimp only); omega) ⟨_, _, _, _, _, rfl⟩ hD1 (good_all hrl2) hl9 lo9 fun h4 tk4 htk4 F10 N10 => ?_
      replace N10 := newsTail (back3 N10)
      k_steps
      refine ⟨?_⟩
      refine neqB (anyBad_at rl) ?_
      k_steps
      refine ⟨?_⟩
      rename Fr _ _ _ _ => FB
      rename News _ _ _ _ => NB
      refine joinF (b := b) (ob := ob2) FB NB ?_ ?_
      · refine isTrue_and ?_
        k_steps
        case _ => exact ⟨rfl, _, _, rfl, by (try dsimp only); omega, by assumption, by assumption⟩
        case _ =>
          refine ⟨?_⟩
          have hbf : anyBad rl = false := by assumption
          refine isTrue_and ?_
          k_steps
          refine ⟨?_⟩
          refine dict_copy (by k_asm) NB (.tail _ (.head _)) hA2 (by assumption) (modules_low (Top.nolimit (by k_asm))) hl8 fun D2 oD2 h5 F11 N11 l11 lo11 hD2 => ?_
          k_steps
          refine ⟨?_⟩
          refine render_told (at' := rl.map (·.2)) (by k_asm) (by k_asm) (by k_in) N11 (.tail _ hO) (.tail _ hDd) (.head _) (by k_asm) rfl (by ktr_room) (by ktr_units) (by (try dsimp only); omega) hD2 (good_all hrl2) hl9 lo11 (no_bad hrl2 hbf) (join_wtxt _) fun t6 h6 tk6 htk6 F12 N12 => ?_
          replace N12 := newsTail N12
          k_steps
          refine ⟨?_⟩
          refine written_ok (rl := rl) (by k_asm) (by k_asm) (by k_in) N12 (by k_asm) rfl (by ktr_room) (by ktr_units) (by (try dsimp only); omega) (.tail _ (.tail _ (.head _))) (fun x hx => ⟨.tail _ (.tail _ (.tail _ (List.mem_append_left _ (List.mem_map_of_mem hx)))), (hrl2 x hx).1, (hrl2 x hx).2.1⟩) (by omega) fun t7 h7 tk7 htk7 F13 N13 => ?_
          k_steps
          refine ⟨?_⟩
          refine neqS rfl ?_
          k_steps
          exact ⟨rfl, _, _, rfl, by (try dsimp only); omega, by assumption, by assumption⟩
      intro h5 tk5 htk5 F11 N11
      k_steps
      refine ⟨?_⟩
      refine' good_ok (ss := rightL) (rl := rl) ?hL ?hh ?hek ?hgl ?hsw ?hclos ?hcell ?hkind ?hnames ?hx ?hrn ?hy ?hz ?hp ?hdx ?hdz ?hdr (by k_asm) N11 (by k_in) (topRead_of (by k_asm)) (modules_low (Top.nolimit (by k_asm))) ?gE ?gR ?gI rfl (.tail _ (.tail _ (.head _))) (fun x hx => ⟨.tail _ (.tail _ (.tail _ (List.mem_append_left _ (List.mem_map_of_mem hx)))), (hrl2 x hx).1⟩) (by omega) (kv_nodup hA2) ?_ ?hs
      case hL => with_unfolding_all rfl
      case hh => with_unfolding_all rfl
      case hek => with_unfolding_all rfl
      case hgl => with_unfolding_all rfl
      case hsw => with_unfolding_all rfl
      case hclos => with_unfolding_all rfl
      case hcell => decide
      case hkind => with_unfolding_all rfl
      case hnames => decide
      case hx => with_unfolding_all rfl
      case hrn => intro _; with_unfolding_all rfl
      case hy => with_unfolding_all rfl
      case hz => with_unfolding_all rfl
      case hp => with_unfolding_all rfl
      case hdx => decide
      case hdz => decide
      case hdr => decide
      case gE => k_is
      case gR => k_is
      case gI => exact strsRight
      case hs => intro _; with_unfolding_all rfl
      intro G oG h6 tk6 hneG loG hG F12 N12
      k_steps
      refine ⟨?_⟩
      refine' kept_ok (ss := rightL) (rl := rl) ?hL ?hh ?hek ?hgl ?hsw ?hclos ?hcell ?hkind ?hnames ?hx ?hrn ?hy ?hz ?hp ?hdx ?hdz ?hdr (by k_asm) N12 (by k_in) (topRead_of (by k_asm)) ?gE ?gR ?gI rfl (.tail _ (.tail _ (.tail _ (.head _)))) (fun x hx => ⟨.tail _ (.tail _ (.tail _ (.tail _ (List.mem_append_left _ (List.mem_map_of_mem hx))))), (hrl2 x hx).1⟩) (by omega) ?_ ?hs
      case hL => with_unfolding_all rfl
      case hh => with_unfolding_all rfl
      case hek => with_unfolding_all rfl
      case hgl => with_unfolding_all rfl
      case hsw => with_unfolding_all rfl
      case hclos => with_unfolding_all rfl
      case hcell => decide
      case hkind => with_unfolding_all rfl
      case hnames => decide
      case hx => with_unfolding_all rfl
      case hrn => intro _; with_unfolding_all rfl
      case hy => with_unfolding_all rfl
      case hz => with_unfolding_all rfl
      case hp => with_unfolding_all rfl
      case hdx => decide
      case hdz => decide
      case hdr => decide
      case gE => k_is
      case gR => k_is
      case gI => exact strsRight
      case hs => intro _; with_unfolding_all rfl
      intro KD nK h7 tk7 hneK F13 N13
      have hkl : (keepR rightL rl).length ≤ 10 := Nat.le_trans (keep_len rl) hl7
      have hO3 := memTail2 N13 hO
      have hDd3 := memTail2 N13 hDd
      k_steps
      refine ⟨?_⟩
      refine render_told (at' := (keepR rightL rl).map (·.2)) (by k_asm) (by k_asm) (by k_in) N13 (.tail _ (.tail _ hO)) (.tail _ (.tail _ hDd)) (.tail _ (.head _)) (by k_asm) rfl (by ktr_room) (by ktr_units) (by (try dsimp only); omega) hG (good_keep hrl2) (by rw [List.length_map]; omega) loG (keep_all hrl2) (join_wtxt _) fun t8 h8 tk8 htk8 F14 N14 => ?_
      k_steps
      refine ⟨?_⟩
      refine written_ok (rl := keepR rightL rl) (by k_asm) (by k_asm) (by k_in) N14 (by k_asm) rfl (by ktr_room) (by ktr_units) (by (try dsimp only); omega) (.head _) (fun x hx => ⟨.tail _ (.tail _ (.tail _ (.tail _ (.tail _ (List.mem_append_left _ (List.mem_map_of_mem (keep_sub hx))))))), (hrl2 x (keep_sub hx)).1, (hrl2 x (keep_sub hx)).2.1⟩) (by omega) fun t9 h9 tk9 htk9 F15 N15 => ?_
      k_steps
      refine ⟨?_⟩
      refine neqS rfl ?_
      k_steps
      refine ⟨?_⟩
      rename News _ _ _ _ => NT
      refine listItem_at (vs := #[.ref x1, .ref x0]) (v := .ref x1) NT (.tail _ (.tail _ (.tail _ (.tail _ (.tail _ (List.mem_append_right _ (.tail _ hlk))))))) (by decide) rfl ?_
      obtain ⟨d1, _, _, _, _, hx1, _⟩ := HB.r1
      k_steps
      refine ⟨?_⟩
      refine is_inst NT (.tail _ (.tail _ hO)) (.tail _ (.tail _ (.tail _ (.tail _ (.tail _ (List.mem_append_right _ (.tail _ hx1))))))) hpl ?_
      k_steps
      refine ⟨?_⟩
      refine tokens_ok (plain := plain) (d := d) (md := md) (t5 := t1) (t6 := t2) (t7 := t3) (news := (szOf N4, io) :: rest) (by k_asm) (by k_asm) (by k_in) hb2 hscr (fun p hp => NT p ?hsub) (by k_asm) rfl ?hoff (by ktr_room) (by ktr_units) (by (try dsimp only); omega) fun ob9 h10 tk10 hb9 htk10 F16 N16 => ?_
      case hsub =>
        simp only [List.mem_cons] at hp
        rcases hp with rfl | rfl | rfl | rfl | hp
        · exact .tail _ (.tail _ (.head _))
        · exact .tail _ (.tail _ hO)
        · exact .tail _ (.tail _ hDd)
        · exact .tail _ (.tail _ (.tail _ (.tail _ (.tail _ (List.mem_append_right _ (.head _))))))
        · exact .tail _ (.tail _ (.tail _ (.tail _ (.tail _ (List.mem_append_right _ (.tail _ hp))))))
      case hoff =>
        intro p hp
        simp only [List.mem_cons] at hp
        rcases hp with rfl | rfl | hp
        · exact HB.off _ ho
        · exact HB.off _ hd'
        · exact hne1 p (List.mem_cons.mpr hp)
      k_steps
      refine ⟨.inl rfl, _, _, _, _, ?q1, rfl, by assumption, out_end (by assumption), ob9, _, rfl, hb9, (frame_out ?q2 frame_mid).1, (frame_out ?q2 frame_mid).2⟩
      case q1 => (try dsimp only); omega
      case q2 => exact rfl
    case step =>
      rintro i2 tt2 m₂ nx₂ h2 tk2 io2 hi2 ⟨ob2, oA2, nn2, rl, rfl, hb2, hA2, hrl2, hlo2, hlen2, g1, g2⟩ htk2 F8 N8
      replace F8 := kst_fr g1 g2 F8
      have hneB := ij_ne (h₀ := default) (h := default) (L := 0) (ob := ob2) (io := io2) (oA := oA2) (RO := PySem.W.listOf (rowRefs rl) nn2) hbR hRA hAlo hne1 hlo2
      replace N8 := swap2 N8
      k_steps
      refine ⟨?_⟩
      rename Fr _ _ _ _ => FJ
      rename News _ _ _ _ => NJ
      refine joinN FJ NJ (S := S) (R := fun v => ∃ wr, mOf FJ (Str.ofString "wrong") = some (.bool wr) ∧ TblF (hd.heap_39 wd.params) wr v) ?_ ?_
      · refine IfExp_ ?_
        k_steps
        case _ =>
          refine ⟨⟨true, congrArg (fun c => some (Value.bool c)) (beq_iff_eq.mpr (by assumption)), ?_⟩, _, _, _, rfl, by (try dsimp only); omega, by assumption, by assumption, by assumption⟩
          refine tbl_of (ss := wrongL) (by k_is) ?_ wrongL_chk ?_ ?_
          · unfold wrongL
            repeat' first | exact .nil | refine .cons _ _ ?_
          · decide
          · decide
        case _ =>
          refine ⟨⟨false, congrArg (fun c => some (Value.bool c)) (beq_eq_false_iff_ne.mpr (by assumption)), ?_⟩, _, _, _, rfl, by (try dsimp only); omega, by assumption, by assumption, by assumption⟩
          refine tbl_of (ss := rightL) (by k_is) ?_ rightL_chk ?_ ?_
          · unfold rightL
            repeat' first | exact .nil | refine .cons _ _ ?_
          · decide
          · decide
      intro v ob3 h3 tk3 hv htk3 hb3 F9 N9
      obtain ⟨wr, hwr, rr, tv, tn, rfl, htl, htz, htz2, htm⟩ := hv
      have hwr1 := Option.some.inj hwr
      injection hwr1 with hwr2
      subst hwr2
      k_steps
      refine ⟨?_⟩
      rename News _ _ _ _ => NP
      rename Fr _ _ _ _ => FP
      refine' pick_ok ?hne ?B ?F ?X hb3 hscr NP ?T ?hk (.inl ⟨_, (show (hd.heap_39 wd.params).In _ from by k_in) _ _ htl⟩) rfl ?hk0 ?hk1 ?hdp ?hu ?htk ?_
      case hne => exact hneB
      case hk0 => omega
      case hk1 => omega
      walk_at "law con"
      intro nv ob4 h4 tk4 hnv hb4 htk4 F10 N10
      obtain ⟨nm, nmt, rfl, hnl, hnr, hng⟩ := htm _ hnv
      k_steps
      refine ⟨?_⟩
      rename News _ _ _ _ => NV
      refine' value_ok hneB ?B ?F ?X hb4 hscr NV ?T ?hk ?hdp ?hu ?htk ?_
      walk_at "law con"
      intro q v wv wrr ob5 h5 tk5 hvr hwrel hlt5 hb5 htk5 F11 N11
      k_steps
      refine ⟨?_⟩
      rename News _ _ _ _ => NN
      cases hin : (valueAt (kvOf (rl.map (·.2))) nm).isSome with
      | true =>
        refine kdg_notin (knd := PySem.strKind _ _) NN (.tail _ (.tail _ (.tail _ (.head _)))) hA2 (by assumption) (strKind_is _ _ _ _) true hin ?_
        k_steps
        exact ⟨.inl rfl, _, _, _, _, by (try dsimp only); omega, rfl, by assumption, swap2 (newsTail (by assumption)), ob5, oA2, nn2, rl, rfl, hb5, hA2, hrl2, hlo2, Nat.le_succ_of_le hlen2, frame_in.1, frame_in.2⟩
      | false =>
        refine kdg_notin (knd := PySem.strKind _ _) NN (.tail _ (.tail _ (.tail _ (.head _)))) hA2 (by assumption) (strKind_is _ _ _ _) false hin ?_
        k_steps
        refine ⟨?_⟩
        rename News _ _ _ _ => NS
        refine set_head (by k_asm) (re_set NS) (ne_A hbR hRA hAlo (hlt5 _ (.tail _ (.tail _ (.head _)))) hlo2 htlR) hA2 (by rw [show (kvOf (rl.map (·.2))).length = rl.length from by simp [kvOf]]; omega) fun h6 oA3 F12 N12 hA3 => ?_
        rw [kv_push (x := ((0, oA3), (nm, v, wrr))) hin] at hA3
        k_steps
        refine ⟨?_⟩
        rename News _ _ _ _ => NA
        refine append_any (by k_asm) NA (.tail _ (.tail _ (.tail _ (.tail _ (.tail _ (.head _)))))) re_sub (ne_R hbR hRA hAlo (by omega) hlo2 htlR) (by rw [rowRefs_size]; omega) fun h7 F13 N13 => ?_
        have hlor : @LT.lt Nat _ (szOf N7) (headOf NA) := by assumption
        k_steps
        case _ =>
          have hbp := bad_push (rl := rl) (x := ((headOf NA, PySem.W.listOf #[.str nm nmt, v, wv] 0), (nm, v, wrr))) hnr
          have hbr : anyBad rl = true := by assumption
          rw [hbr, Bool.true_or, ← hbr] at hbp
          exact ⟨.inl rfl, _, _, _, _, by (try dsimp only); omega, rfl, by assumption, perm_end (a := (nm, v, wrr)) (by assumption), ob5, oA3, nn2 + 1, rl ++ [((headOf NA, PySem.W.listOf #[.str nm nmt, v, wv] 0), (nm, v, wrr))], rfl, hb5, kv_at hA3, rowsOk_push hrl2 ⟨hnl, hnr, hng⟩ hvr hwrel, lo_push hlo2 hlor, by rw [List.length_append]; exact Nat.succ_le_succ hlen2, (frame_in3 hbp).1, (frame_in3 hbp).2⟩
        case _ =>
          have hbp := bad_push (rl := rl) (x := ((headOf NA, PySem.W.listOf #[.str nm nmt, v, wv] 0), (nm, v, wrr))) hnr
          have hbr : anyBad rl = false := by assumption
          rw [hbr, Bool.false_or] at hbp
          exact ⟨.inl rfl, _, _, _, _, by (try dsimp only); omega, rfl, by assumption, perm_end (a := (nm, v, wrr)) (by assumption), ob5, oA3, nn2 + 1, rl ++ [((headOf NA, PySem.W.listOf #[.str nm nmt, v, wv] 0), (nm, v, wrr))], rfl, hb5, kv_at hA3, rowsOk_push hrl2 ⟨hnl, hnr, hng⟩ hvr hwrel, lo_push hlo2 hlor, by rw [List.length_append]; exact Nat.succ_le_succ hlen2, (frame_in3 hbp).1, (frame_in3 hbp).2⟩)
end
theorem PySem.Challenge.cw_bq5017_02_holds : PySem.Challenge.rw_bq5017_02.Holds :=
  Mine.law_holds
